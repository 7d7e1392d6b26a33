/-
  The law's files as data; the graph of files and parts; what a marking leaves. Plain law, no program in sight. No statement of the seat is proved here.
-/
import Derived.Test.YtebecbidodnneaaDn
import Derived.Test.YtebecbidodnneaaInts
namespace Go.Proofs.Ytebecbidodnneaa
open Go.RowKit

structure Rc where
  tg : Int
  kd : Int
  ex : Bool
instance : Inhabited Rc := ⟨⟨0, 0, false⟩⟩
structure Pt where
  rz : List Int
  dz : List (Int × Int)
  cb : Bool
  fb : Bool
instance : Inhabited Pt := ⟨⟨[], [], false, false⟩⟩
structure Wf where
  css : Int
  se : Bool
  lv : Bool
  rs : List Rc
  ps : List Pt
instance : Inhabited Wf := ⟨⟨0, false, false, [], []⟩⟩
def wf (fs : List Wf) (i : Nat) : Wf := fs.getD i default
def rc (rs : List Rc) (i : Nat) : Rc := rs.getD i default
def pt (ps : List Pt) (i : Nat) : Pt := ps.getD i default
def dp (dz : List (Int × Int)) (i : Nat) : Int × Int := dz.getD i (0, 0)
/-- the vertices: file v, part j of file v -/
def MM : Nat := 2097152
def cf (v : Nat) : Nat := v * MM
def cp (v j : Nat) : Nat := v * MM + (j + 1)
theorem cf_div (v : Nat) : cf v / MM = v := by unfold cf MM; omega
theorem cf_mod (v : Nat) : cf v % MM = 0 := by unfold cf MM; omega
theorem cp_div {v j : Nat} (h : j < 2097151) : cp v j / MM = v := by unfold cp MM; omega
theorem cp_mod {v j : Nat} (h : j < 2097151) : cp v j % MM = j + 1 := by unfold cp MM; omega
theorem cf_inj {u v : Nat} (h : cf u = cf v) : u = v := by unfold cf MM at h; omega
theorem cp_inj {u v i j : Nat} (hi : i < 2097151) (hj : j < 2097151) (h : cp u i = cp v j) : u = v ∧ i = j := by unfold cp MM at h; omega
theorem cf_cp {u v j : Nat} (hj : j < 2097151) : cf u ≠ cp v j := by unfold cf cp MM; omega
theorem cf_lt {v n : Nat} (h : v < n) : cf v < n * MM := by unfold cf MM; omega
theorem cp_lt {v j n : Nat} (h : v < n) (hj : j < 2097151) : cp v j < n * MM := by unfold cp MM; omega
/-- one import record of a part: where it leads, whether it keeps the part -/
def recG (fs : List Wf) (ig : Bool) (r : Rc) : Bool := (wf fs r.tg.toNat).se || ig
def recN (fs : List Wf) (ig : Bool) (r : Rc) : List Nat := if r.kd = 1 ∧ 0 ≤ r.tg ∧ recG fs ig r = true then [cf r.tg.toNat] else []
def keepR (fs : List Wf) (ig : Bool) (r : Rc) : Bool := if r.kd = 1 then (if 0 ≤ r.tg then recG fs ig r else !r.ex) else false
def nbK (fs : List Wf) (ig : Bool) (rs : List Rc) (rz : List Int) : Nat → List Nat | 0 => [] | k + 1 => nbK fs ig rs rz k ++ recN fs ig (rc rs (nth rz k).toNat)
def kpK (fs : List Wf) (ig : Bool) (rs : List Rc) (rz : List Int) : Nat → Bool | 0 => false | k + 1 => kpK fs ig rs rz k || keepR fs ig (rc rs (nth rz k).toNat)
def cssN (z : Wf) : List Nat := if 0 ≤ z.css then [cf z.css.toNat] else []
/-- is part j of file z kept when the file is? -/
def kpP (fs : List Wf) (ig : Bool) (z : Wf) (j : Nat) : Bool := !((pt z.ps j).cb && !kpK fs ig z.rs (pt z.ps j).rz (pt z.ps j).rz.length)
def nbP (fs : List Wf) (ig : Bool) (z : Wf) (a : Nat) : Nat → List Nat
  | 0 => cssN z
  | j + 1 => nbP fs ig z a j ++ nbK fs ig z.rs (pt z.ps j).rz (pt z.ps j).rz.length ++ (if kpP fs ig z j = true then [cp a j] else [])
def nbD (dz : List (Int × Int)) (a : Nat) : Nat → List Nat | 0 => [cf a] | k + 1 => nbD dz a k ++ [cp (dp dz k).1.toNat (dp dz k).2.toNat]
def nbr (fs : List Wf) (ig : Bool) (x : Nat) : List Nat :=
  if x % MM = 0 then nbP fs ig (wf fs (x / MM)) (x / MM) (wf fs (x / MM)).ps.length else nbD (pt (wf fs (x / MM)).ps (x % MM - 1)).dz (x / MM) (pt (wf fs (x / MM)).ps (x % MM - 1)).dz.length
def EE (fs : List Wf) (ig : Bool) (x c : Nat) : Prop := c ∈ nbr fs ig x
def Z0 (_ : Nat) : Prop := False
theorem EE_f (fs : List Wf) (ig : Bool) (a c : Nat) : c ∈ nbP fs ig (wf fs a) a (wf fs a).ps.length ↔ EE fs ig (cf a) c := by
  unfold EE nbr
  rw [if_pos (cf_mod a), cf_div]
theorem EE_p (fs : List Wf) (ig : Bool) (a j c : Nat) (hj : j < 2097151) : c ∈ nbD (pt (wf fs a).ps j).dz a (pt (wf fs a).ps j).dz.length ↔ EE fs ig (cp a j) c := by
  unfold EE nbr
  rw [if_neg (by rw [cp_mod hj]; omega), cp_div hj, cp_mod hj, Nat.add_sub_cancel]
/-- the two markings of the law -/
def dN (_ : Nat) : Bool := false
theorem mk_one {E : Nat → Nat → Prop} {Z : Nat → Prop} {a : Nat} {d : Nat → Bool} (h : Mkd E Z dN a d) (v : Nat) : d v = true ↔ Rch E Z (fun x => dN x = true) a v := by
  rw [h v]
  unfold dN
  simp
theorem mk_here {E : Nat → Nat → Prop} {Z : Nat → Prop} {a : Nat} {d d' : Nat → Bool} (h : Mkd E Z d a d') : d' a = true := by
  rw [h a]
  by_cases hd : d a = true
  · exact .inl hd
  · exact .inr (.here hd)
theorem mk_two {E : Nat → Nat → Prop} {Z : Nat → Prop} {a b : Nat} {d1 d2 dA dB : Nat → Bool} (h1 : Mkd E Z dN a d1) (h2 : Mkd E Z d1 b d2) (hA : Mkd E Z dN a dA) (hB : Mkd E Z dN b dB) (v : Nat) : d2 v = (dA v || dB v) := by
  have e1 : (fun x => d1 x = true) = (fun x => dN x = true ∨ Rch E Z (fun x => dN x = true) a x) := by funext x; exact propext (h1 x)
  have k2 := h2 v
  rw [e1, h1 v] at k2
  have k3 := k2.trans (Rch.two (E := E) (Z := Z) (D := fun x => dN x = true) a b v)
  rw [Bool.eq_iff_iff, k3, Bool.or_eq_true, mk_one hA, mk_one hB]
  simp [dN]
end Go.Proofs.Ytebecbidodnneaa
