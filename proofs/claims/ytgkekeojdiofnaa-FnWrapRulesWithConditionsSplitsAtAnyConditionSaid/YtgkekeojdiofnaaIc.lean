/-
  The conditions as they were laid. No statement of the seat is proved here.
-/
import Derived.Test.YtgkekeojdiofnaaTk
namespace Go.Proofs.Ytgkekeojdiofnaa
open Go.RowKit
set_option linter.unusedVariables false
set_option linter.unusedSimpArgs false

/-- a layer's children -/
def Pt (w : World) (c : Value) (t : Bool) : Prop := (t = true ∧ ∃ q x xc, c = .pointer (some ⟨q, 0, none⟩) ∧ Blk w q 48 #[.slice x 0 xc]) ∨ (t = false ∧ c = .pointer none)
theorem Pt.grow {w w' : World} {c : Value} {t : Bool} (h : Pt w c t) (hg : w.grownBy w' none) : Pt w' c t := by
  rcases h with ⟨h1, q, x, xc, h2, h3⟩ | h
  · exact .inl ⟨h1, q, x, xc, h2, h3.gb hg (by simp)⟩
  · exact .inr h
/-- the layers of a condition -/
def Ly (w : World) (v : Value) (ls : List Bool) : Prop := ∃ b cs, v = .slice (some ⟨b, 0, none⟩) ls.length ls.length ∧ Blk w b 55 cs ∧ ∀ j, j < ls.length → ∃ c, Pt w c (ls.getD j false) ∧ ∀ i, i < 7 → cs[j * 7 + i]? = (tkC c ⟨#[]⟩ 0)[i]?
theorem Ly.grow {w w' : World} {v : Value} {ls : List Bool} (h : Ly w v ls) (hg : w.grownBy w' none) : Ly w' v ls := by
  obtain ⟨b, cs, h1, h2, h3⟩ := h
  refine ⟨b, cs, h1, h2.gb hg (by simp), fun j hj => ?_⟩
  obtain ⟨c, k1, k2⟩ := h3 j hj
  exact ⟨c, k1.grow hg, k2⟩
/-- its supports conditions -/
def Su (w : World) (v : Value) (n : Nat) : Prop := ∃ b cs, v = .slice (some ⟨b, 0, none⟩) n n ∧ Blk w b 55 cs ∧ ∀ j, j < n → ∀ i, i < 7 → cs[j * 7 + i]? = (tkC (.pointer none) ⟨#[]⟩ 0)[i]?
theorem Su.grow {w w' : World} {v : Value} {n : Nat} (h : Su w v n) (hg : w.grownBy w' none) : Su w' v n := by
  obtain ⟨b, cs, h1, h2, h3⟩ := h
  exact ⟨b, cs, h1, h2.gb hg (by simp), h3⟩
structure Co (w : World) (ds : Array Value) (i : Nat) (z : Cz) : Prop where
  q : ds[i * 3]? = some (.slice none 0 0)
  l : ∃ v, ds[i * 3 + 1]? = some v ∧ Ly w v z.ls
  s : ∃ v, ds[i * 3 + 2]? = some v ∧ Su w v z.sn.toNat
theorem Co.grow {w w' : World} {ds : Array Value} {i : Nat} {z : Cz} (h : Co w ds i z) (hg : w.grownBy w' none) : Co w' ds i z := by
  obtain ⟨v, h1, h2⟩ := h.l
  obtain ⟨u, k1, k2⟩ := h.s
  exact ⟨h.q, ⟨v, h1, h2.grow hg⟩, ⟨u, k1, k2.grow hg⟩⟩
/-- the conditions -/
def Ic (w : World) (b : Nat) (cs : List Cz) : Prop := ∃ ds, Blk w b 58 ds ∧ ∀ i, i < cs.length → Co w ds i (cz cs i)
theorem Ic.grow {w w' : World} {b : Nat} {cs : List Cz} (h : Ic w b cs) (hg : w.grownBy w' none) : Ic w' b cs := by
  obtain ⟨ds, h1, h2⟩ := h
  exact ⟨ds, h1.gb hg (by simp), fun i hi => (h2 i hi).grow hg⟩
def cd (z : Cz) : Cd := ⟨z.ls, z.sn.toNat⟩
def cds (cs : List Cz) : List Cd := cs.map cd
theorem cds_at (cs : List Cz) (i : Nat) (h : i < cs.length) : (cds cs)[i]? = some (cd (cz cs i)) := by simp [cds, cz, h]
/-- the nest that a state tells -/
def NS (w : World) (s : Ns) (v : Value) : Prop := Nest w s.ch s.m v
theorem NS.grow {w w' : World} {s : Ns} {v : Value} (h : NS w s v) (hg : w.grownBy w' none) : NS w' s v := Nest.grow hg h
theorem NS.form {w : World} {s : Ns} {v : Value} (h : NS w s v) : ∃ a l c, v = .slice a l c ∧ l ≤ maxLen ∧ (l = 0 → s.empty = true) ∧ (0 < l → s.empty = false) := by
  obtain ⟨ch, m⟩ := s
  cases ch with
  | nil =>
    obtain ⟨ao, cap, h1, h2, _⟩ := h
    exact ⟨ao, m, cap, h1, h2, fun e => by subst e; rfl, fun e => by simp [Ns.empty]; omega⟩
  | cons t r =>
    obtain ⟨b, p, cs, iv, h1, _⟩ := h
    exact ⟨_, _, _, h1, by simp [maxLen], fun e => (Nat.one_ne_zero e).elim, fun _ => by simp [Ns.empty]⟩
theorem NS.nil (w : World) (s : Ns) (h : s.empty = true) : NS w s (.slice none 0 0) := by
  obtain ⟨ch, m⟩ := s
  simp [Ns.empty] at h
  obtain ⟨rfl, rfl⟩ := h
  exact ⟨none, 0, rfl, by simp, fun e => (Nat.zero_ne_one e).elim⟩
/-- the cells of a known at-rule -/
def kaC (s : ByteArray) (u v : Value) : Array Value := #[.string s, u, v, .int .i32 0]
theorem build65 (s : ByteArray) (a1 : Option Addr) (l1 c1 : Nat) (a2 : Option Addr) (l2 c2 : Nat) (w : World) : (Instr.build 65 #[(0, .string s), (1, .slice a1 l1 c1), (2, .slice a2 l2 c2)]).run Try.prog w = .ok (.agg (kaC s (.slice a1 l1 c1) (.slice a2 l2 c2))) w := by kernel_rfl
theorem bs26 (p : Nat) (w : World) : (Instr.buildSlice 26 1 #[(0, .agg (ruC (.iface 63 (.pointer (some ⟨p, 0, none⟩)))))]).run Try.prog w = .ok (.slice (some ⟨w.heap.size, 0, none⟩) 1 1) (w.alloc (.cells (ruC (.iface 63 (.pointer (some ⟨p, 0, none⟩)))) 46)) := by kernel_rfl
/-- one wrap more -/
theorem NS.wrap {w : World} {s : Ns} {a1 a2 : Option Addr} {l1 c1 l2 c2 : Nat} (t : Bool) (h : NS w s (.slice a2 l2 c2)) :
    NS ((w.alloc (.cells (kaC (nm t) (.slice a1 l1 c1) (.slice a2 l2 c2)) 65)).alloc (.cells (ruC (.iface 63 (.pointer (some ⟨w.heap.size, 0, none⟩)))) 46)) ⟨t :: s.ch, s.m⟩ (.slice (some ⟨w.heap.size + 1, 0, none⟩) 1 1) := by
  have h1 := Blk.new w 65 (kaC (nm t) (.slice a1 l1 c1) (.slice a2 l2 c2))
  have h2 := Blk.new (w.alloc (.cells (kaC (nm t) (.slice a1 l1 c1) (.slice a2 l2 c2)) 65)) 46 (ruC (.iface 63 (.pointer (some ⟨w.heap.size, 0, none⟩))))
  rw [show (w.alloc (.cells (kaC (nm t) (.slice a1 l1 c1) (.slice a2 l2 c2)) 65)).heap.size = w.heap.size + 1 by simp] at h2
  exact ⟨_, _, _, _, rfl, h2, h1.alloc _, rfl, rfl, Nest.grow (gb_alloc (gb_alloc (gb_refl _ _) _) _) h⟩
end Go.Proofs.Ytgkekeojdiofnaa
