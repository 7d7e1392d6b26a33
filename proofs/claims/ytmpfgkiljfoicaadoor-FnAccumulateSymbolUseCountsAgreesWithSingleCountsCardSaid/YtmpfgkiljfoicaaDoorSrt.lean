/-
  A bottom-up merge sort: what its three loops keep. No statement of the seat is proved here.
-/
import Derived.WalkKit
namespace Go.Proofs.YtmpfgkiljfoicaaDoor
set_option linter.unusedVariables false

structure En where
  a : Int
  b : Int
  c : Int
  d : Int
deriving DecidableEq
def En.lt (x y : En) : Bool := if x.a = y.a then (if x.b = y.b then (if x.c = y.c then decide (x.d < y.d) else decide (x.c < y.c)) else decide (x.b < y.b)) else decide (x.a < y.a)
def En.le (x y : En) : Prop := y.lt x = false
theorem En.lt_iff (x y : En) : x.lt y = true ↔ x.a < y.a ∨ x.a = y.a ∧ (x.b < y.b ∨ x.b = y.b ∧ (x.c < y.c ∨ x.c = y.c ∧ x.d < y.d)) := by
  unfold En.lt
  split
  · rename_i h1
    split
    · rename_i h2
      split
      · rename_i h3
        simp [h1, h2, h3]
      · rename_i h3
        simp [h1, h2, h3]
    · rename_i h2
      simp [h1, h2]
  · rename_i h1
    simp [h1]
theorem En.le_iff (x y : En) : x.le y ↔ x.a < y.a ∨ x.a = y.a ∧ (x.b < y.b ∨ x.b = y.b ∧ (x.c < y.c ∨ x.c = y.c ∧ x.d ≤ y.d)) := by
  unfold En.le
  have h := En.lt_iff y x
  cases hb : y.lt x
  · rw [hb] at h
    simp at h
    simp only [true_iff]
    omega
  · rw [hb] at h
    simp at h
    simp only [Bool.true_eq_false, false_iff]
    omega
theorem En.le_refl (x : En) : x.le x := by rw [En.le_iff]; omega
theorem En.le_trans {x y z : En} (h : x.le y) (k : y.le z) : x.le z := by rw [En.le_iff] at *; omega
theorem En.le_antisymm {x y : En} (h : x.le y) (k : y.le x) : x = y := by
  rw [En.le_iff] at *
  cases x; cases y
  simp at *
  omega
theorem En.le_of_lt {x y : En} (h : x.lt y = true) : x.le y := by rw [En.lt_iff] at h; rw [En.le_iff]; omega

def sg (f : Nat → En) (a b : Nat) : List En := (List.range' a (b - a)).map f
theorem sg_nil (f : Nat → En) {a b : Nat} (h : b ≤ a) : sg f a b = [] := by simp [sg, show b - a = 0 by omega]
theorem sg_snoc (f : Nat → En) {a b : Nat} (h : a ≤ b) : sg f a (b + 1) = sg f a b ++ [f b] := by
  unfold sg
  rw [show b + 1 - a = (b - a) + 1 by omega, List.range'_concat]
  simp
  congr 1
  omega
theorem sg_congr {f g : Nat → En} {a b : Nat} (h : ∀ x, a ≤ x → x < b → f x = g x) : sg f a b = sg g a b := by
  unfold sg
  refine List.map_congr_left (fun x hx => ?_)
  rw [List.mem_range'] at hx
  obtain ⟨i, h1, h2⟩ := hx
  exact h x (by omega) (by omega)
theorem sg_app (f : Nat → En) {a b c : Nat} (h : a ≤ b) (k : b ≤ c) : sg f a c = sg f a b ++ sg f b c := by
  obtain ⟨n, rfl⟩ : ∃ n, c = b + n := ⟨c - b, by omega⟩
  clear k
  induction n with
  | zero => simp [sg_nil f (Nat.le_refl b)]
  | succ n ih => rw [← Nat.add_assoc, sg_snoc f (by omega), sg_snoc f (by omega), ih, List.append_assoc]
def Asc (f : Nat → En) (a b : Nat) : Prop := ∀ x y, a ≤ x → x ≤ y → y < b → (f x).le (f y)
def upd (d : Nat → En) (k : Nat) (v : En) : Nat → En := fun x => if x = k then v else d x
theorem upd_at (d : Nat → En) (k : Nat) (v : En) : upd d k v k = v := by simp [upd]
theorem upd_ne (d : Nat → En) {k x : Nat} (v : En) (h : x ≠ k) : upd d k v x = d x := by simp [upd, h]

/-- the merge under way -/
structure Mi (f d : Nat → En) (lo mid hi i j k : Nat) : Prop where
  r : lo ≤ i ∧ i ≤ mid ∧ mid ≤ j ∧ j ≤ hi ∧ k + mid = i + j
  pm : (sg d lo k).Perm (sg f lo i ++ sg f mid j)
  as : Asc d lo k
  l1 : i < mid → ∀ x, lo ≤ x → x < k → (d x).le (f i)
  l2 : j < hi → ∀ x, lo ≤ x → x < k → (d x).le (f j)
theorem Mi.start (f d : Nat → En) {lo mid hi : Nat} (h : lo ≤ mid) (k : mid ≤ hi) : Mi f d lo mid hi lo mid lo :=
  ⟨⟨Nat.le_refl _, h, Nat.le_refl _, k, by omega⟩, by rw [sg_nil d (Nat.le_refl lo), sg_nil f (Nat.le_refl lo), sg_nil f (Nat.le_refl mid)]; exact List.Perm.refl _, fun x y h1 h2 h3 => by omega, fun _ x h1 h2 => by omega, fun _ x h1 h2 => by omega⟩
theorem Mi.left {f d : Nat → En} {lo mid hi i j k : Nat} (h : Mi f d lo mid hi i j k) (ha : Asc f lo mid) (hi' : i < mid) (hc : j < hi → (f j).lt (f i) = false) : Mi f (upd d k (f i)) lo mid hi (i + 1) j (k + 1) := by
  obtain ⟨r1, r2, r3, r4, r5⟩ := h.r
  have hold : ∀ x, x < k → upd d k (f i) x = d x := fun x hx => upd_ne d _ (by omega)
  refine ⟨by omega, ?_, fun x y h1 h2 h3 => ?_, fun h1 x h2 h3 => ?_, fun h1 x h2 h3 => ?_⟩
  · rw [sg_snoc _ (by omega), sg_congr (fun x _ hx => hold x hx), upd_at, sg_snoc f (by omega)]
    refine (h.pm.append_right _).trans ?_
    rw [List.append_assoc, List.append_assoc]
    exact (List.perm_append_comm).append_left _
  · by_cases e : y = k
    · subst e
      rw [upd_at]
      by_cases e2 : x = y
      · subst e2; rw [upd_at]; exact En.le_refl _
      · rw [hold x (by omega)]; exact h.l1 hi' x h1 (by omega)
    · rw [hold x (by omega), hold y (by omega)]; exact h.as x y h1 h2 (by omega)
  · by_cases e : x = k
    · subst e; rw [upd_at]; exact ha i (i + 1) r1 (by omega) h1
    · rw [hold x (by omega)]; exact En.le_trans (h.l1 hi' x h2 (by omega)) (ha i (i + 1) r1 (by omega) h1)
  · by_cases e : x = k
    · subst e; rw [upd_at]; exact hc h1
    · rw [hold x (by omega)]; exact h.l2 h1 x h2 (by omega)
theorem Mi.right {f d : Nat → En} {lo mid hi i j k : Nat} (h : Mi f d lo mid hi i j k) (ha : Asc f mid hi) (hj : j < hi) (hc : i < mid → (f j).lt (f i) = true) : Mi f (upd d k (f j)) lo mid hi i (j + 1) (k + 1) := by
  obtain ⟨r1, r2, r3, r4, r5⟩ := h.r
  have hold : ∀ x, x < k → upd d k (f j) x = d x := fun x hx => upd_ne d _ (by omega)
  refine ⟨by omega, ?_, fun x y h1 h2 h3 => ?_, fun h1 x h2 h3 => ?_, fun h1 x h2 h3 => ?_⟩
  · rw [sg_snoc _ (by omega), sg_congr (fun x _ hx => hold x hx), upd_at, sg_snoc f (by omega), ← List.append_assoc]
    exact h.pm.append_right _
  · by_cases e : y = k
    · subst e
      rw [upd_at]
      by_cases e2 : x = y
      · subst e2; rw [upd_at]; exact En.le_refl _
      · rw [hold x (by omega)]; exact h.l2 hj x h1 (by omega)
    · rw [hold x (by omega), hold y (by omega)]; exact h.as x y h1 h2 (by omega)
  · by_cases e : x = k
    · subst e; rw [upd_at]; exact En.le_of_lt (hc h1)
    · rw [hold x (by omega)]; exact h.l1 h1 x h2 (by omega)
  · by_cases e : x = k
    · subst e; rw [upd_at]; exact ha j (j + 1) r3 (by omega) h1
    · rw [hold x (by omega)]; exact En.le_trans (h.l2 hj x h2 (by omega)) (ha j (j + 1) r3 (by omega) h1)
theorem Mi.stop {f d : Nat → En} {lo mid hi i j k : Nat} (h : Mi f d lo mid hi i j k) (hk : k = hi) : (sg d lo hi).Perm (sg f lo hi) ∧ Asc d lo hi := by
  obtain ⟨r1, r2, r3, r4, r5⟩ := h.r
  have e1 : i = mid := by omega
  have e2 : j = hi := by omega
  subst hk e1 e2
  have hp := h.pm
  rw [← sg_app f r1 r3] at hp
  exact ⟨hp, h.as⟩

/-- ascending in blocks of w, below N -/
def AscB (f : Nat → En) (w N : Nat) : Prop := ∀ b, Asc f (b * w) (min ((b + 1) * w) N)
/-- the pass under way -/
structure Md (f d : Nat → En) (w n lo b : Nat) : Prop where
  at_ : lo = b * (2 * w)
  pm : (sg d 0 (min lo n)).Perm (sg f 0 (min lo n))
  as : AscB d (2 * w) (min lo n)
theorem Md.start (f d : Nat → En) (w n : Nat) : Md f d w n 0 0 :=
  ⟨by simp, by simp [sg_nil], fun b x y h1 h2 h3 => by simp at h3⟩
theorem Md.halves {f : Nat → En} {w n lo b : Nat} (hb : AscB f w n) (hlo : lo = b * (2 * w)) : Asc f lo (min (lo + w) n) ∧ Asc f (min (lo + w) n) (min (lo + 2 * w) n) := by
  have e0 : (2 * b) * w = lo := by rw [hlo, Nat.mul_comm 2 b, Nat.mul_assoc]
  have e1 : (2 * b + 1) * w = lo + w := by rw [Nat.succ_mul, e0]
  have e2 : (2 * b + 1 + 1) * w = lo + 2 * w := by rw [Nat.succ_mul, e1]; omega
  constructor
  · have h := hb (2 * b)
    rw [e0, e1] at h
    exact h
  · have h := hb (2 * b + 1)
    rw [e1, e2] at h
    intro x y h1 h2 h3
    by_cases e : lo + w ≤ n
    · exact h x y (by omega) h2 h3
    · omega
theorem Md.next {f d d' : Nat → En} {w n lo b : Nat} (h : Md f d w n lo b) (hl : lo < n) (hp : (sg d' lo (min (lo + 2 * w) n)).Perm (sg f lo (min (lo + 2 * w) n))) (ha : Asc d' lo (min (lo + 2 * w) n)) (hold : ∀ x, x < lo → d' x = d x) :
    Md f d' w n (lo + 2 * w) (b + 1) := by
  have hm : min lo n = lo := by omega
  have h2 := h.pm
  have h3 := h.as
  rw [hm] at h2 h3
  have hlo := h.at_
  refine ⟨by rw [Nat.succ_mul b (2 * w), ← hlo], ?_, fun c x y h1 h4 h5 => ?_⟩
  · rw [sg_app d' (Nat.zero_le lo) (by omega), sg_app f (Nat.zero_le lo) (by omega), sg_congr (fun x _ hx => hold x hx)]
    exact h2.append hp
  · rcases Nat.lt_trichotomy c b with hc | hc | hc
    · have hle : (c + 1) * (2 * w) ≤ b * (2 * w) := Nat.mul_le_mul_right _ hc
      rw [← hlo] at hle
      rw [hold x (by omega), hold y (by omega)]
      exact h3 c x y h1 h4 (by omega)
    · subst hc
      rw [← hlo] at h1
      exact ha x y h1 h4 (by omega)
    · have hle : (b + 1) * (2 * w) ≤ c * (2 * w) := Nat.mul_le_mul_right _ hc
      rw [Nat.succ_mul b (2 * w), ← hlo] at hle
      omega
theorem Md.stop {f d : Nat → En} {w n lo b : Nat} (h : Md f d w n lo b) (hl : n ≤ lo) : (sg d 0 n).Perm (sg f 0 n) ∧ AscB d (2 * w) n := by
  have hm : min lo n = n := by omega
  have h2 := h.pm
  have h3 := h.as
  rw [hm] at h2 h3
  exact ⟨h2, h3⟩
theorem AscB.one (f : Nat → En) (n : Nat) : AscB f 1 n := fun b x y h1 h2 h3 => by
  have : x = y := by omega
  subst this
  exact En.le_refl _
theorem AscB.all {f : Nat → En} {w n : Nat} (h : AscB f w n) (hw : n ≤ w) : Asc f 0 n := fun x y h1 h2 h3 => h 0 x y (by omega) h2 (by omega)
theorem sg_pair {f : Nat → En} {a b : Nat} (h : Asc f a b) : (sg f a b).Pairwise En.le := by
  unfold sg
  rw [List.pairwise_map]
  refine List.Pairwise.imp_of_mem (R := fun x y => x < y) ?_ (List.pairwise_lt_range' (s := a) (n := b - a))
  intro x y hx hy hlt
  rw [List.mem_range'] at hx hy
  obtain ⟨i, h1, h2⟩ := hx
  obtain ⟨j, h3, h4⟩ := hy
  exact h x y (by omega) (by omega) (by omega)
theorem perm_sorted : ∀ (l1 l2 : List En), l1.Perm l2 → l1.Pairwise En.le → l2.Pairwise En.le → l1 = l2
  | [], l2, h, _, _ => (List.nil_perm.1 h).symm
  | x :: l1, [], h, _, _ => absurd (List.perm_nil.1 h) (by simp)
  | x :: l1, y :: l2, h, h1, h2 => by
    have e : x = y := by
      have hx : x ∈ y :: l2 := h.mem_iff.1 (by simp)
      have hy : y ∈ x :: l1 := h.mem_iff.2 (by simp)
      rcases List.mem_cons.1 hx with e | hx
      · exact e
      · rcases List.mem_cons.1 hy with e | hy
        · exact e.symm
        · exact En.le_antisymm ((List.pairwise_cons.1 h1).1 y hy) ((List.pairwise_cons.1 h2).1 x hx)
    subst e
    rw [perm_sorted l1 l2 h.cons_inv (List.pairwise_cons.1 h1).2 (List.pairwise_cons.1 h2).2]
theorem sg_at (f : Nat → En) {n x : Nat} (h : x < n) : (sg f 0 n)[x]? = some (f x) := by
  simp [sg, h]
theorem sorted_same {f g : Nat → En} {n : Nat} (hp : (sg f 0 n).Perm (sg g 0 n)) (hf : Asc f 0 n) (hg : Asc g 0 n) {x : Nat} (hx : x < n) : f x = g x := by
  have e := perm_sorted _ _ hp (sg_pair hf) (sg_pair hg)
  have h1 := sg_at f hx
  rw [e, sg_at g hx] at h1
  exact (Option.some.inj h1).symm
end Go.Proofs.YtmpfgkiljfoicaaDoor
