/-
  Joining a public path with a relative path: what is stripped off the relative path, the slash between. Plain: no program.
-/
import Derived.Test.YtdbpgfjmkglkiaaFmtBase
import Derived.Lib.Strings
namespace Go.Proofs.YtdbpgfjmkglkiaaFmt

/-- no-op slashes are stripped: any number of '/' and './' -/
def strip : List UInt8 → List UInt8
  | 47 :: l => strip l
  | 46 :: 47 :: l => strip l
  | l => l
/-- what is left of the relative path -/
def relOf : List UInt8 → List UInt8
  | 46 :: 47 :: l => strip l
  | l => l
/-- the public path, '.' for the empty one -/
def pubOf (p : List UInt8) : List UInt8 := if p = [] then [46] else p
/-- the slash between -/
def slashOf (p : List UInt8) : List UInt8 := if p.getLast? = some 47 then [] else [47]
def joined (p r : List UInt8) : List UInt8 := pubOf p ++ (slashOf (pubOf p) ++ relOf r)

theorem strip_slash (l : List UInt8) : strip (47 :: l) = strip l := by rw [strip]
theorem strip_dot (l : List UInt8) : strip (46 :: 47 :: l) = strip l := by rw [strip]
theorem strip_else {l : List UInt8} (h1 : l.head? ≠ some 47) (h2 : ¬ ∃ m, l = 46 :: 47 :: m) : strip l = l := by
  match l with
  | [] => rfl
  | [a] =>
    by_cases h : a = 47
    · subst h; simp at h1
    · unfold strip; split <;> simp_all
  | a :: b :: m =>
    unfold strip
    split
    · rename_i e; cases e; simp at h1
    · rename_i e; cases e; exact absurd ⟨_, rfl⟩ h2
    · rfl
theorem strip_le : ∀ l : List UInt8, (strip l).length ≤ l.length
  | [] => by rw [strip] <;> simp
  | [a] => by
    by_cases h : a = 47
    · subst h; rw [strip]; exact Nat.le_succ_of_le (strip_le [])
    · unfold strip; split <;> simp_all
  | a :: b :: m => by
    unfold strip
    split
    · rename_i e; cases e; exact Nat.le_succ_of_le (strip_le (b :: m))
    · rename_i e; cases e; exact Nat.le_succ_of_le (Nat.le_succ_of_le (strip_le m))
    · exact Nat.le_refl _
theorem relOf_dot (l : List UInt8) : relOf (46 :: 47 :: l) = strip l := rfl
theorem relOf_else {l : List UInt8} (h2 : ¬ ∃ m, l = 46 :: 47 :: m) : relOf l = l := by
  unfold relOf
  split
  · exact absurd ⟨_, rfl⟩ h2
  · rfl

theorem relOf_le (l : List UInt8) : (relOf l).length ≤ l.length := by
  unfold relOf
  split
  · exact Nat.le_succ_of_le (Nat.le_succ_of_le (strip_le _))
  · exact Nat.le_refl _

theorem join_nil (r : List UInt8) : joined [] r = joined [46] r := rfl
theorem join_dot (r : List UInt8) : joined [46] r = joined [46, 47] r := rfl
theorem join_slash (p r : List UInt8) (hp : p ≠ []) (hl : p.getLast? ≠ some 47) : joined p r = joined (p ++ [47]) r := by
  unfold joined pubOf
  rw [if_neg hp, if_neg (by simp)]
  unfold slashOf
  rw [if_neg hl, if_pos (by simp)]
  simp
theorem join_rel (p r : List UInt8) : joined p (46 :: 47 :: r) = joined p (46 :: 47 :: 46 :: 47 :: r) := by
  unfold joined
  rw [relOf_dot, relOf_dot, strip_dot]
end Go.Proofs.YtdbpgfjmkglkiaaFmt
