/-
  The css lexer's token list: what it holds, how it grows. No statement of the seat is proved here.
-/
import Derived.Test.YtlbpplkanogkgaaDoorCssNxt
import Derived.Maps.AppendAt
import Derived.OwnWalk
namespace Go.Proofs.YtlbpplkanogkgaaDoor
open Go.RowKit
set_option linter.unusedVariables false
structure Tk where
  st : Nat
  ln : Nat
  un : Nat
  kd : Nat
  fl : Nat
def Tk.cells (t : Tk) : List Value := [.int .i32 t.st, .int .i32 t.ln, .int .u16 t.un, .int .u8 t.kd, .int .u8 t.fl]
def tkRow (ts : List Tk) : List Value := ts.flatMap Tk.cells
theorem tkRow_length (ts : List Tk) : (tkRow ts).length = ts.length * 5 := by
  induction ts with
  | nil => rfl
  | cons t ts ih => rw [show tkRow (t :: ts) = t.cells ++ tkRow ts from rfl, List.length_append, ih, List.length_cons]; show 5 + _ = _; omega
theorem tkRow_snoc (ts : List Tk) (t : Tk) : tkRow (ts ++ [t]) = tkRow ts ++ t.cells := by simp [tkRow]
theorem tkRow_at (ts : List Tk) (k : Nat) (h : k < ts.length) (j : Nat) (hj : j < 5) : (tkRow ts)[k * 5 + j]? = (ts[k]'h).cells[j]? := by
  induction ts generalizing k with
  | nil => exact absurd h (by simp)
  | cons t ts ih =>
    rw [show tkRow (t :: ts) = t.cells ++ tkRow ts from rfl]
    cases k with
    | zero => rw [List.getElem?_append_left (by show _ < 5; omega)]; simp
    | succ k =>
      rw [List.getElem?_append_right (by show 5 ≤ _; omega), show (k + 1) * 5 + j - t.cells.length = k * 5 + j by show _ - 5 = _; omega]
      simpa using ih k (by simpa using h)
/-- v is a slice of tokens of the call's own that reads as ts -/
def OwnT (w : World) (B : Nat) (v : Value) (ts : List Tk) : Prop := w.ownsRow B 85 5 v ts.length (tkRow ts)
theorem OwnT.nil (w : World) (B : Nat) : OwnT w B (.slice none 0 0) [] := World.ownsRow_nil w B 85 5
theorem OwnT.lt {w : World} {B : Nat} {v : Value} {ts : List Tk} (h : OwnT w B v ts) : ∀ g, v.ownBlock = some g → B ≤ g ∧ g < w.heap.size := World.ownsRow.lt h
theorem OwnT.gb {w w' : World} {B : Nat} {v : Value} {ts : List Tk} {r : Option Nat} (h : OwnT w B v ts) (hg : w.grownBy w' r) (hne : v.ownBlock = none ∨ v.ownBlock ≠ r) : OwnT w' B v ts := World.ownsRow.kept h hg hne
theorem OwnT.drew {w : World} {B : Nat} {v : Value} {ts : List Tk} (h : OwnT w B v ts) : OwnT w.drew B v ts := h
/-- the cells of token k, where the slice is not nil -/
theorem OwnT.at {w : World} {B : Nat} {v : Value} {ts : List Tk} (h : OwnT w B v ts) : ∃ ao cap, v = .slice ao ts.length cap ∧ ts.length ≤ cap ∧ (∀ k, k < ts.length → ∃ g, ao = some ⟨g, 0, none⟩ ∧ g < w.heap.size) ∧
    ∀ g, ao = some ⟨g, 0, none⟩ → ∀ k, (hk : k < ts.length) → ∀ j, j < 5 → w.cell? ⟨g, k * 5 + j, none⟩ = (ts[k]'hk).cells[j]? := by
  obtain ⟨h1, h2⟩ := h
  rcases h2 with ⟨rfl, h0⟩ | ⟨g, cap, cur, rfl, hB, hh, hc, hm, hs, ht⟩
  · exact ⟨none, 0, by rw [h0], by omega, fun k hk => by omega, fun g e => by cases e⟩
  · refine ⟨_, cap, rfl, hc, fun k _ => ⟨g, rfl, blk_lt hh⟩, fun g' e k hk j hj => ?_⟩
    cases e
    rw [blk_cell hh, ← tkRow_at ts k hk j hj, ← ht, List.getElem?_take, if_pos (by omega)]
    simp
def lsum (ts : List Tk) : Nat := (ts.map Tk.ln).sum
theorem lsum_snoc (ts : List Tk) (t : Tk) : lsum (ts ++ [t]) = lsum ts + t.ln := by simp [lsum]
theorem lsum_take (ts : List Tk) (k : Nat) (h : k < ts.length) : lsum (ts.take (k + 1)) = lsum (ts.take k) + (ts[k]'h).ln := by
  rw [List.take_succ_eq_append_getElem h, lsum_snoc]
/-- one token of the text -/
def TkOk (s : ByteArray) (t : Tk) : Prop := t.kd ≠ 0 ∧ TokP s t.st (t.st + t.ln) t.kd t.un
/-- the tokens tile the text from q0 to q -/
def Chain (s : ByteArray) (q0 : Nat) (ts : List Tk) (q : Nat) : Prop := q = q0 + lsum ts ∧ ∀ k, (h : k < ts.length) → (ts[k]'h).st = q0 + lsum (ts.take k) ∧ TkOk s (ts[k]'h)
theorem Chain.nil (s : ByteArray) (q : Nat) : Chain s q [] q := ⟨rfl, fun k h => absurd h (by simp)⟩
theorem Chain.snoc {s : ByteArray} {q0 q : Nat} {ts : List Tk} (h : Chain s q0 ts q) (t : Tk) (hs : t.st = q) (ht : TkOk s t) : Chain s q0 (ts ++ [t]) (q + t.ln) := by
  obtain ⟨h1, h2⟩ := h
  refine ⟨by rw [lsum_snoc]; omega, fun k hk => ?_⟩
  rw [List.length_append] at hk
  rcases (show k < ts.length ∨ k = ts.length by simp at hk; omega) with hl | rfl
  · rw [List.getElem_append_left hl, List.take_append_of_le_length (by omega)]
    exact h2 k hl
  · rw [List.getElem_append_right (Nat.le_refl _), List.take_append_of_le_length (by omega), List.take_length]
    simp only [Nat.sub_self, List.getElem_cons_zero]
    exact ⟨by rw [hs, h1], ht⟩
theorem Chain.len {s : ByteArray} {q0 q : Nat} {ts : List Tk} (h : Chain s q0 ts q) (hq : q ≤ s.size) : ts.length + q0 ≤ q := by
  obtain ⟨h1, h2⟩ := h
  have : ∀ k, k ≤ ts.length → k ≤ lsum (ts.take k) := by
    intro k
    induction k with
    | zero => intro _; exact Nat.zero_le _
    | succ k ih =>
      intro hk
      rw [lsum_take ts k (by omega)]
      have := ih (by omega)
      have hp := (h2 k (by omega)).2
      obtain ⟨hk0, hp⟩ := hp
      rcases hp with ⟨h, _⟩ | ⟨h, _⟩
      · exact absurd h hk0
      · omega
  have := this ts.length (Nat.le_refl _)
  rw [List.take_length] at this
  omega
/-- 'append(v, t)', one token -/
theorem wpList_pushT {P : Program} (w : World) {ops : Array Oper} {rest : List Oper} {o : Oper} {a : Act} {Q : Exit → Act → World → Prop} (hgd : o.guard = none) (s x : Operand) (t : TypeId)
    (ho : o.op = .call { callee := .builtin .append, args := #[s, x], argTypes := #[t, t] }) (B : Nat) (ht : P.underlying t = some (.slice 85)) (bytes : Nat) (z : Value) (hz5 : z.cells.size = 5)
    (hinfo : (P.info? 85).map (fun i => (i.zero, i.size, i.bytes)) = some (some z, 5, bytes)) (v : Value) (ts : List Tk) (tk : Tk) (hs : a.eval s = v) (hown : OwnT w B v ts)
    (g : Nat) (hx : a.eval x = .slice (some ⟨g, 0, none⟩) 1 1) (hb : Blk w g 85 tk.cells.toArray) (h63 : ts.length + 1 ≤ maxLen) (hby : (ts.length + 1) * bytes ≤ 140737488355328) (hB : B ≤ w.heap.size)
    (h : ∀ v' w', OwnT w' B v' (ts ++ [tk]) → w.grownBy w' v.ownBlock → (v'.ownBlock = v.ownBlock ∨ v'.ownBlock = some w.heap.size) → wpList P ops Q rest (a.put o.dst v') w') : wpList P ops Q (o :: rest) a w := by
  obtain ⟨i0, hi, hz0, hz1, hz2⟩ := info_parts hinfo
  refine wpList_append_own_at _ hgd s x t ho B 85 i0 z 5 bytes ht hi hz0 hz1 hz2 hz5 (by decide) v ts.length (tkRow ts) hs hown ⟨g, 0, none⟩ 1 1 tk.cells hx rfl ?_ (fun u hu => ?_) h63 hby hB ?_
  · intro j u hj
    have e : (⟨g, 0, none⟩ : Addr).add j = ⟨g, j, none⟩ := by unfold Addr.add; split <;> simp_all
    rw [e, hb.cell j, ← hj]; simp
  · simp only [Tk.cells, List.mem_cons, List.not_mem_nil, or_false] at hu
    rcases hu with rfl | rfl | rfl | rfl | rfl <;> rfl
  · intro v' w' h1 h2 h3 h4
    refine h v' w' ?_ h2 h4
    show w'.ownsRow B 85 5 v' (ts ++ [tk]).length (tkRow (ts ++ [tk]))
    rw [tkRow_snoc, List.length_append]; exact h1
/-- the text begins with a byte order mark -/
def bom3 (s : ByteArray) : Bool := decide (3 ≤ s.size) && decide (byteAt s 0 = 239) && decide (byteAt s 1 = 187) && decide (byteAt s 2 = 191)
theorem dec_bom1 (n b0 b1 b2 b3 : Nat) (h0 : b0 < 256) (h1 : b1 < 256) (h2 : b2 < 256) (h3 : b3 < 256) (h : (Lib.decodeN n b0 b1 b2 b3).1 = 65279) : (3 ≤ n ∧ b0 = 239 ∧ b1 = 187 ∧ b2 = 191) ∧ (Lib.decodeN n b0 b1 b2 b3).2 = 3 := by
  unfold Lib.decodeN at h ⊢
  split at h
  · exfalso; simp only at h; omega
  split at h
  · exfalso; split at h <;> (simp only at h; omega)
  split at h
  · split at h
    · rename_i g1 g2 g3 g4
      simp only at h
      have : b0 = 239 ∧ b1 = 187 ∧ b2 = 191 := by omega
      obtain ⟨rfl, rfl, rfl⟩ := this
      refine ⟨⟨by omega, rfl, rfl, rfl⟩, ?_⟩
      simp [g3]
    · exfalso; simp only at h; omega
  split at h
  · exfalso; split at h <;> (simp only at h; omega)
  · exfalso; simp only at h; omega
theorem dec_bom2 (n b3 : Nat) (h : 3 ≤ n) : (Lib.decodeN n 239 187 191 b3).1 = 65279 := by
  unfold Lib.decodeN
  have h1 : 1 < n := by omega
  have h2 : 2 < n := by omega
  simp [h1, h2]
theorem bom_dec (s : ByteArray) : ((decAt s 0).1 = 65279 ↔ bom3 s = true) ∧ ((decAt s 0).1 = 65279 → (decAt s 0).2 = 3) := by
  have e := Lib.decode_at s 0
  simp only [Nat.zero_add, Nat.sub_zero] at e
  have k1 := dec_bom1 s.size (s.get! 0).toNat (s.get! 1).toNat (s.get! 2).toNat (s.get! 3).toNat (s.get! 0).toNat_lt (s.get! 1).toNat_lt (s.get! 2).toNat_lt (s.get! 3).toNat_lt
  rw [← e] at k1
  have k2 : bom3 s = true → (Utf8.decode s 0).1 = 65279 := by
    unfold bom3 byteAt
    simp only [Bool.and_eq_true, decide_eq_true_eq]
    rintro ⟨⟨⟨h, h0⟩, h1⟩, h2⟩
    rw [e, h0, h1, h2]
    exact dec_bom2 _ _ h
  have k3 : bom3 s = true → 0 < s.size := by
    unfold bom3
    simp only [Bool.and_eq_true, decide_eq_true_eq]
    rintro ⟨⟨⟨h, _⟩, _⟩, _⟩
    omega
  have k4 : (3 ≤ s.size ∧ (s.get! 0).toNat = 239 ∧ (s.get! 1).toNat = 187 ∧ (s.get! 2).toNat = 191) → bom3 s = true := by
    unfold bom3 byteAt
    simp only [Bool.and_eq_true, decide_eq_true_eq]
    rintro ⟨h, h0, h1, h2⟩
    exact ⟨⟨⟨h, h0⟩, h1⟩, h2⟩
  unfold decAt
  by_cases h : 0 < s.size
  · rw [if_pos h]
    simp only
    exact ⟨⟨fun c => k4 (k1 (by omega)).1, fun c => by have := k2 c; omega⟩, fun c => (k1 (by omega)).2⟩
  · rw [if_neg h]
    exact ⟨⟨fun c => by simp only at c; omega, fun c => absurd (k3 c) h⟩, fun c => by simp only at c; omega⟩
end Go.Proofs.YtlbpplkanogkgaaDoor
