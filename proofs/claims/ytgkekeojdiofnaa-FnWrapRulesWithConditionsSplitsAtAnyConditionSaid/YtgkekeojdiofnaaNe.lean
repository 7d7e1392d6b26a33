/-
  A nest of rules in memory; the rules at the bottom. No statement of the seat is proved here.
-/
import Derived.Test.YtgkekeojdiofnaaCa
import Derived.Deep.MidRow
import Derived.Deep.OwnRows
import Derived.KernelRfl
namespace Go.Proofs.Ytgkekeojdiofnaa
open Go.RowKit
set_option linter.unusedVariables false
set_option linter.unusedSimpArgs false

theorem setCells_mid {b : Nat} {t : TypeId} : ∀ (vs : List Value) (o : Nat) (w : World) (cs : Array Value), Blk w b t cs → o + vs.length ≤ cs.size →
    ∃ cs', Blk (w.setCells b o vs) b t cs' ∧ cs'.size = cs.size ∧ (∀ j, j < o ∨ o + vs.length ≤ j → cs'[j]? = cs[j]?) ∧ ∀ j, j < vs.length → cs'[o + j]? = vs[j]? := by
  intro vs
  induction vs with
  | nil => intro o w cs h hl; rw [World.setCells]; exact ⟨cs, h, rfl, fun _ _ => rfl, fun j hj => by simp at hj⟩
  | cons v vs ih =>
    intro o w cs h hl
    rw [World.setCells]
    simp only [List.length_cons] at hl
    obtain ⟨cs', h1, h2, h3, h4⟩ := ih (o + 1) _ _ (h.set o v) (by simp; omega)
    refine ⟨cs', h1, by rw [h2]; simp, fun j hj => ?_, fun j hj => ?_⟩
    · simp only [List.length_cons] at hj
      rw [h3 j (by omega), Array.getElem?_setIfInBounds_ne (by omega)]
    · cases j with
      | zero =>
        rw [Nat.add_zero, h3 o (.inl (by omega))]
        simp only [List.getElem?_cons_zero]
        exact Array.getElem?_setIfInBounds_self_of_lt (by omega)
      | succ j =>
        have := h4 j (by simpa using hj)
        rw [show o + (j + 1) = o + 1 + j by omega, this, List.getElem?_cons_succ]
/-- a store over some cells of a block -/
theorem wpList_store_mid {P : Program} {ops : Array Oper} {rest : List Oper} {o : Oper} {a : Act} {w : World} {Q : Exit → Act → World → Prop} (hgd : o.guard = none) (t : TypeId) (x y : Operand) (ho : o.op = .store t x y)
    (b off : Nat) (old cells : Array Value) (hb : Blk w b t old) (hx : a.eval x = .pointer (some ⟨b, off, none⟩)) (hy : a.eval y = .agg cells) (hsz : off + cells.size ≤ old.size)
    (hi : (P.info? t).map (·.size) = some cells.size) (h1 : cells.all (·.oneCell') = true)
    (h : ∀ w' cs', Blk w' b t cs' → cs'.size = old.size → (∀ j, j < off ∨ off + cells.size ≤ j → cs'[j]? = old[j]?) → (∀ j, j < cells.size → cs'[off + j]? = cells[j]?) → w.grownBy w' (some b) → wpList P ops Q rest (a.put o.dst undef) w') : wpList P ops Q (o :: rest) a w :=
  wpList_plain hgd fun _ hK => by
    obtain ⟨cs', q1, q2, q3, q4⟩ := setCells_mid cells.toList off w old hb (by simpa using hsz)
    refine wp_store_mid t x y ho b off cells hx hy (fun j hj => ?_) hi h1 (hK _ _ (h _ cs' q1 q2 (by simpa using q3) (fun j hj => ?_) (setCells_gb _ _ _)))
    · rw [hb.cell, hb.free]
      exact ⟨by rw [Array.getElem?_eq_getElem (by omega)]; rfl, rfl⟩
    · have := q4 j (by simpa using hj)
      rw [this]; simp
/-- make, of any element: a new block of the zero cells -/
theorem wpList_make_blk {P : Program} (w : World) {ops : Array Oper} {rest : List Oper} {o : Oper} {a : Act} {Q : Exit → Act → World → Prop}
    (hg : o.guard = none) (l c : Operand) (t : TypeId) (hop : o.op = Op.makeSlice t l c)
    (e : TypeId) (z : Value) (m bytes : Nat) (h1 : P.underlying t = some (.slice e)) (h2 : (P.info? e).map (fun i => (i.zero, i.size, i.bytes)) = some (some z, m, bytes))
    (n : Nat) (hl : a.eval l = .int .i64 (n : Int)) (hc : a.eval c = .int .i64 (n : Int)) (b2 : bytes * n ≤ 281474976710656) (b3 : n ≤ maxLen)
    (hK : ∀ w', Blk w' w.heap.size e (madeCells z.cells (n * m)) → w.grownBy w' none → wpList P ops Q rest (a.put o.dst (.slice (some ⟨w.heap.size, 0, none⟩) n n)) w') :
    wpList P ops Q (o :: rest) a w := by
  obtain ⟨i, hi, hz, hs, hb⟩ := info_parts h2
  refine wpList_make_full w hg l c t hop w.heap.size e i z m h1 hi hz hs .i64 .i64 n n n hl hc rfl rfl (by rw [hb]; exact b2) b3 (Nat.le_refl _) ?_
  intro w' hown hgr
  refine hK w' ?_ hgr
  obtain ⟨_, h | ⟨g, cap, cur, hv, _, hh, _, _, hcs, htk⟩⟩ := hown
  · simp at h
  · simp only [Value.slice.injEq, Option.some.injEq, Addr.mk.injEq, and_true, true_and] at hv
    obtain ⟨rfl, rfl⟩ := hv
    have : cur = madeCells z.cells (n * m) := by
      apply Array.ext'
      rw [← List.take_of_length_le (l := cur.toList) (i := n * m) (by simp [hcs]), htk]
    rw [this] at hh
    exact hh
/-- a slice literal whose cells stay behind a name -/
theorem wpList_slice {P : Program} {ops : Array Oper} {rest : List Oper} {o : Oper} {a : Act} {w : World} {Q : Exit → Act → World → Prop} (hgd : o.guard = none) (t : TypeId) (len : Nat) (parts : Array (Nat × Operand)) (ho : o.op = .buildSlice t len parts)
    (vals : List (Nat × Value)) (hv : (parts.toList.map fun p => (p.1, a.eval p.2)) = vals) (cs : Array Value) (e : TypeId) (hb : ∀ w, (Instr.buildSlice t len vals.toArray).run P w = .ok (.slice (some ⟨w.heap.size, 0, none⟩) len len) (w.alloc (.cells cs e)))
    (h : wpList P ops Q rest (a.put o.dst (.slice (some ⟨w.heap.size, 0, none⟩) len len)) (w.alloc (.cells cs e))) : wpList P ops Q (o :: rest) a w :=
  wpList_plain hgd fun _ hK => by
    have hv' : (parts.map fun (i, x) => (i, a.eval x)) = vals.toArray := by rw [← hv]; apply Array.ext'; simp
    unfold Oper.wp execOp
    simp only [ho, hv', hb, Sem.run_bind, Result.andThen_ok]
    exact hK _ _ h
/-- the cells of a rule -/
def ruC (v : Value) : Array Value := #[v, .int .i32 0]
def chC : Array Value := #[.string ⟨#[85, 84, 70, 45, 56]⟩]
theorem build73 (w : World) : (Instr.build 73 #[(0, .string ⟨#[85, 84, 70, 45, 56]⟩)]).run Try.prog w = .ok (.agg chC) w := by kernel_rfl
noncomputable def zr46 : Array Value := cellsOf ((zeroValue 46).run Try.prog default)
theorem alloc46 (w : World) : (Instr.alloc 46 true (.tuple #[])).run Try.prog w = .ok (.pointer (some ⟨w.heap.size, 0, none⟩)) (w.alloc (.cells zr46 46)) := by kernel_rfl
theorem build46p (t : TypeId) (p : Nat) (w : World) : (Instr.build 46 #[(0, .iface t (.pointer (some ⟨p, 0, none⟩)))]).run Try.prog w = .ok (.agg (ruC (.iface t (.pointer (some ⟨p, 0, none⟩))))) w := by kernel_rfl
theorem size46 (t : TypeId) (p : Nat) : zr46.size = (ruC (.iface t (.pointer (some ⟨p, 0, none⟩)))).size := by kernel_rfl
theorem info46 (t : TypeId) (p : Nat) : (Try.prog.info? 46).map (·.size) = some (ruC (.iface t (.pointer (some ⟨p, 0, none⟩)))).size := by kernel_rfl
theorem one46 (t : TypeId) (p : Nat) : (ruC (.iface t (.pointer (some ⟨p, 0, none⟩)))).all (·.oneCell') = true := by kernel_rfl
theorem zinfo46 : (Try.prog.info? 46).map (fun i => (i.zero, i.size, i.bytes)) = some (some (.agg zr46), 2, 24) := by kernel_rfl
set_option maxRecDepth 100000 in
set_option maxHeartbeats 4000000 in
theorem ch_any (w : World) : Calls Try.prog 12 #[] w fun e w' => ∃ p, e = .returned (.agg (ruC (.iface 71 (.pointer (some ⟨p, 0, none⟩))))) ∧ w.grownBy w' none := by
  obtain ⟨b, hb⟩ : ∃ b, w.heap.size = b := ⟨_, rfl⟩
  have hB := Blk.new w 46 zr46
  rw [hb] at hB
  have hg : w.grownBy (w.alloc (.cells zr46 46)) none := gb_alloc (gb_refl _ _) _
  have HB := Lib.hid (And.intro hB (And.intro hg hb))
  clear hB hg
  go_enter Try.func12, Try.ntmps12
  go_upto_region 1 with (refine wpList_alloc_zero rfl 46 rfl zr46 alloc46 ?_)
  try rw [hb]
  clear hb
  generalize w.alloc (.cells zr46 46) = w1 at HB ⊢
  have hB2 := (HB.out.1).alloc (.cells chC 73)
  have H2 : Hid (w.grownBy (w1.alloc (.cells chC 73)) none) := Lib.hid (gb_alloc HB.out.2.1 _)
  have HB2 := Lib.hid hB2
  clear hB2
  go_wp2_with (first
    | (refine wpList_build rfl 73 _ rfl [(0, .string ⟨#[85, 84, 70, 45, 56]⟩)] rfl chC build73 ?_)
    | (refine wpList_build rfl 46 _ rfl [(0, .iface 71 (.pointer (some ⟨w1.heap.size, 0, none⟩)))] rfl _ (build46p 71 w1.heap.size) ?_)
    | (refine wpList_store_blk rfl 46 _ _ rfl b zr46 (ruC (.iface 71 (.pointer (some ⟨w1.heap.size, 0, none⟩)))) HB2.out rfl rfl (size46 _ _) (info46 _ _) (one46 _ _) ?_; intro w5 hb5 hg5))
  simp only [Act.put]
  refine bodyPost_ret (v := .agg (ruC (.iface 71 (.pointer (some ⟨w1.heap.size, 0, none⟩))))) (results_cell_row (d := _) Try.results12 _ _ b 46 _ (0, 0) (by rfl) hb5 Try.underlying46 rfl (info46 _ _)) rfl ⟨_, rfl, ?_⟩
  exact gb_new (gb_trans (gb_none H2.out) hg5) (by rw [HB.out.2.2]; exact Nat.le_refl _)
/-- rules at the bottom -/
def Bot (w : World) (m : Nat) (v : Value) : Prop := ∃ ao cap, v = .slice ao m cap ∧ m ≤ maxLen ∧ (m = 1 → ∃ b cs p l, ao = some ⟨b, 0, none⟩ ∧ Blk w b 46 cs ∧ cs[0]? = some (.iface 71 (.pointer (some ⟨p, 0, none⟩))) ∧ cs[1]? = some (.int .i32 l))
theorem Bot.grow {w w' : World} {m : Nat} {v : Value} (h : Bot w m v) (hg : w.grownBy w' none) : Bot w' m v := by
  obtain ⟨ao, cap, h1, h2, h3⟩ := h
  refine ⟨ao, cap, h1, h2, fun e => ?_⟩
  obtain ⟨b, cs, p, l, k1, k2, k3⟩ := h3 e
  exact ⟨b, cs, p, l, k1, k2.gb hg (by simp), k3⟩
def nm : Bool → ByteArray | true => ⟨#[108, 97, 121, 101, 114]⟩ | false => ⟨#[115, 117, 112, 112, 111, 114, 116, 115]⟩
/-- a nest of rules -/
def Nest (w : World) : List Bool → Nat → Value → Prop
  | [], m, v => Bot w m v
  | t :: r, m, v => ∃ b p cs iv, v = .slice (some ⟨b, 0, none⟩) 1 1 ∧ Blk w b 46 (ruC (.iface 63 (.pointer (some ⟨p, 0, none⟩)))) ∧ Blk w p 65 cs ∧ cs[0]? = some (.string (nm t)) ∧ cs[2]? = some iv ∧ Nest w r m iv
theorem Nest.grow {w w' : World} (hg : w.grownBy w' none) : ∀ {ch : List Bool} {m : Nat} {v : Value}, Nest w ch m v → Nest w' ch m v
  | [], m, v, h => Bot.grow h hg
  | t :: r, m, v, ⟨b, p, cs, iv, h1, h2, h3, h4, h5, h6⟩ => ⟨b, p, cs, iv, h1, h2.gb hg (by simp), h3.gb hg (by simp), h4, h5, Nest.grow hg h6⟩
set_option maxRecDepth 100000 in
set_option maxHeartbeats 4000000 in
theorem wr_any (n : Nat) (hn : n ≤ 65536) (w : World) : Calls Try.prog 8 #[.int .i64 (n : Int)] w fun e w' => ∃ v, e = .returned v ∧ Nest w' [] n v ∧ w.grownBy w' none := by
  go_enter Try.func8, Try.ntmps8
  go_upto_region 2 with (at_make; refine wpList_make_blk w rfl _ _ 26 rfl 46 (.agg zr46) 2 24 Try.underlying26 zinfo46 n rfl rfl (by omega) (by unfold maxLen; omega) ?_; intro w1 hb1 hg1; have H1 := Lib.hid (And.intro hb1 hg1); clear hb1 hg1)
  obtain ⟨R, hR⟩ : ∃ R, w.heap.size = R := ⟨_, rfl⟩
  rw [hR]
  have HR := Lib.hid hR
  clear hR
  have H0 : Hid (∃ cs, Blk w1 R 46 cs ∧ cs.size = n * 2 ∧ w.grownBy w1 none) := Lib.hid (by
    have h := H1.out.1
    rw [HR.out] at h
    exact ⟨_, h, by simp [madeCells], H1.out.2⟩)
  clear H1
  go_wp2_with fail
  go_loopg [4] n (fun k x wx => ∃ i : Nat, x = .int .i64 (i : Int) ∧ i ≤ n ∧ n - i ≤ k ∧ Hid (∃ cs, Blk wx R 46 cs ∧ cs.size = n * 2 ∧ w.grownBy wx none ∧ (1 ≤ i → ∃ p l, cs[0]? = some (.iface 71 (.pointer (some ⟨p, 0, none⟩))) ∧ cs[1]? = some (.int .i32 l))))
  case atStart =>
    obtain ⟨cs, h1, h2, h3⟩ := H0.out
    exact ⟨0, rfl, by omega, by omega, Lib.hid ⟨cs, h1, h2, h3, fun h => by omega⟩⟩
  case round =>
    obtain ⟨i, rfl, hi, hk, HB⟩ := hrel
    obtain ⟨wy, rfl⟩ : ∃ wy : World, wy = wr := ⟨_, rfl⟩
    rcases (show n = i ∨ i < n by omega) with he | hlt
    · obtain rfl := he
      go_wp2_with fail
      go_ret
      obtain ⟨cs, h1, h2, h3, h4⟩ := HB.out
      exact ⟨_, rfl, ⟨_, _, rfl, by unfold maxLen; omega, fun e => by
        obtain ⟨p, l, k1, k2⟩ := h4 (by omega)
        exact ⟨R, cs, p, l, rfl, h1, k1, k2⟩⟩, h3⟩
    · obtain ⟨cs, h1, h2, h3, h4⟩ := HB.out
      have HC := Lib.hid (And.intro h1 (And.intro h2 (And.intro h3 h4)))
      clear h1 h2 h3 h4 HB
      have HCH := Lib.hid (ch_any wy)
      go_wp2_with (first
        | (go_at_call 12; refine (HCH.out).mono ?_; rintro e w2 ⟨p, rfl, hg2⟩; have HG2 := Lib.hid hg2; have HB2 := Lib.hid (HC.out.1.gb hg2 (by simp)); have lR := HB2.out.lt; clear hg2)
        | (refine wpList_store_mid rfl 46 _ _ rfl R (i * 2) cs (ruC (.iface 71 (.pointer (some ⟨p, 0, none⟩)))) HB2.out rfl rfl (by rw [HC.out.2.1]; show i * 2 + 2 ≤ n * 2; omega) (info46 _ _) (one46 _ _) ?_; intro w3 cs3 hb3 hs3 ho3 hn3 hg3; have H3 := Lib.hid (And.intro hb3 (And.intro hs3 (And.intro ho3 (And.intro hn3 hg3)))); clear hb3 hs3 ho3 hn3 hg3))
      go_roundg (gk - 1)
      case measure => omega
      case rel =>
        obtain ⟨q1, q2, q3, q4, q5⟩ := H3.out
        refine ⟨i + 1, by go_num, by omega, by omega, Lib.hid ⟨cs3, q1, q2.trans HC.out.2.1, gb_new (gb_trans (gb_none (gb_trans HC.out.2.2.1 HG2.out)) q5) (by rw [HR.out]; exact Nat.le_refl _), fun _ => ?_⟩⟩
        by_cases h0 : i = 0
        · subst h0
          have a0 := q4 0 (by show 0 < 2; omega)
          have a1 := q4 1 (by show 1 < 2; omega)
          exact ⟨p, 0, a0.trans rfl, a1.trans rfl⟩
        · obtain ⟨p', l', k1, k2⟩ := HC.out.2.2.2 (by omega)
          exact ⟨p', l', (q3 0 (.inl (by omega))).trans k1, (q3 1 (.inl (by omega))).trans k2⟩
end Go.Proofs.Ytgkekeojdiofnaa
