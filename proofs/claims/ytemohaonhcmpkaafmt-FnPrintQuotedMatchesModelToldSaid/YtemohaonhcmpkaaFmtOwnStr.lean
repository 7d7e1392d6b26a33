/-
  'append(v, s...)' of a string's bytes to a byte slice of the call's own, in the words of 'Own' and 'Gr'; a byte slice turned into a string. No statement of the seat is proved here.
-/
import Derived.Test.YtemohaonhcmpkaaFmtOwn
import Derived.Lib.AppendStr
namespace Go.Proofs.YtemohaonhcmpkaaFmt
open Go.RowKit

/-- the bytes of a string as numbers -/
def byt (s : ByteArray) : List Int := s.data.toList.map fun b => (b.toNat : Int)
theorem byt_length (s : ByteArray) : (byt s).length = s.size := by
  rw [byt, List.length_map]; exact Array.length_toList
theorem byt_cells (s : ByteArray) : row .u8 (byt s) = Lib.strCells s := by
  unfold row byt Lib.strCells
  rw [List.map_map]; rfl

theorem run_append_string_at {P : Program} (w : World) (B : Nat) (t u ty e : TypeId) (ht : P.underlying t = some (.slice e)) (hu : P.underlying u = some .string)
    (hinfo : (P.info? e).map (fun i => (i.zero, i.size, i.bytes)) = some (some (.int .u8 0), 1, 1)) (v : Value) (zs : List Int) (hown : Own .u8 e w B v zs) (s : ByteArray)
    (hl : zs.length + s.size ≤ 140737488355328) (hB : B ≤ w.heap.size) :
    ∃ v' w', (Builtin.append_ #[t, u] ty #[v, .string s]).run P w = .ok v' w' ∧ Own .u8 e w' B v' (zs ++ byt s) ∧ Gr w v w' v' := by
  obtain ⟨i, hi, hz, hs1, hb1⟩ := info_parts hinfo
  have h63 : zs.length + s.size ≤ maxLen := by unfold maxLen; omega
  obtain ⟨v', w', hr, h2, h3, h4⟩ := Lib.run_append_own_string (P := P) w B t u ty e i ht hu hi hz hs1 hb1 v zs.length (row .u8 zs) hown s h63 hl hB
  refine ⟨v', w', hr, ?_, h3, ?_⟩
  · show w'.ownsRow B e 1 v' (zs ++ byt s).length (row .u8 (zs ++ byt s))
    rw [row_app, List.length_append, byt_length, byt_cells]; exact h2
  · rcases hown.2 with ⟨rfl, h0⟩ | ⟨g, cap, cur, rfl, hbg, hg, hnc, hcm, hcs, htake⟩
    · by_cases hm : s.size = 0
      · have := h4.2 ⟨rfl, hm⟩
        subst this
        exact .inl rfl
      · have hr2 := run_append_nil_string (P := P) w t u ty e i (.int .u8 0) ht hu hi hz s (by omega) (by omega) (by rw [hb1]; omega)
        rw [hr] at hr2
        simp only [Result.ok.injEq] at hr2
        rw [hr2.1]
        exact .inr ⟨w.heap.size, rfl, Nat.le_refl _⟩
    · by_cases hroom : zs.length + s.size ≤ cap
      · have hcs' : cur.size = cap := by simpa using hcs
        have hr2 := Lib.run_append_room_string (P := P) w t u ty e i ht hu hi hs1 g zs.length cap cur hg s hroom (by omega)
        rw [hr] at hr2
        simp only [Result.ok.injEq] at hr2
        rw [hr2.1]
        exact .inl rfl
      · have holds : ∀ j u, (row .u8 zs)[j]? = some u → w.cell? ((⟨g, 0, none⟩ : Addr).add j) = some u := World.ownsRow.cells hown (g := g) rfl
        have hr2 := Lib.run_append_grow_string (P := P) w t u ty e i (.int .u8 0) ht hu hi hz ⟨g, 0, none⟩ zs.length cap (row .u8 zs) (by rw [hs1, row_length, Nat.mul_one]) holds s (by omega) (by omega) (by rw [hb1]; exact growslice_fits (by omega) (by omega))
        rw [hr] at hr2
        simp only [Result.ok.injEq] at hr2
        rw [hr2.1]
        exact .inr ⟨w.heap.size, rfl, Nat.le_refl _⟩

/-- 'append(v, s...)', s a string -/
theorem wpList_push_string {P : Program} (w : World) {ops : Array Oper} {rest : List Oper} {o : Oper} {a : Act} {Q : Exit → Act → World → Prop} (hgd : o.guard = none) (sl x : Operand) (t u : TypeId)
    (ho : o.op = .call { callee := .builtin .append, args := #[sl, x], argTypes := #[t, u] }) (B : Nat) (e : TypeId) (ht : P.underlying t = some (.slice e)) (hu : P.underlying u = some .string)
    (hinfo : (P.info? e).map (fun i => (i.zero, i.size, i.bytes)) = some (some (.int .u8 0), 1, 1)) (v : Value) (zs : List Int) (hs : a.eval sl = v) (hown : Own .u8 e w B v zs) (s : ByteArray) (hx : a.eval x = .string s)
    (hl : zs.length + s.size ≤ 140737488355328) (hB : B ≤ w.heap.size)
    (h : ∀ v' w', Own .u8 e w' B v' (zs ++ byt s) → Gr w v w' v' → wpList P ops Q rest (a.put o.dst v') w') : wpList P ops Q (o :: rest) a w := by
  refine wpList_plain hgd fun K hK => ?_
  obtain ⟨v', w', hr, h2, h3⟩ := run_append_string_at (P := P) w B t u o.type e ht hu hinfo v zs hown s hl hB
  unfold Oper.wp execOp
  simp only [ho, resolve, invoke, builtin, Sem.run_bind, Sem.run_pure, Result.andThen_ok, List.map_toArray, List.map_cons, List.map_nil, hs, hx, hr]
  exact hK _ _ (h v' w' h2 h3)
end Go.Proofs.YtemohaonhcmpkaaFmt
