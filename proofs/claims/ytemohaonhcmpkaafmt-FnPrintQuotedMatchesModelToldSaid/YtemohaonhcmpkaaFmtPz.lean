/-
  printQuoted, and the law's door to it. No statement of the seat is proved here.
-/
import Derived.Test.YtemohaonhcmpkaaFmtPq
import Derived.Test.YtemohaonhcmpkaaFmtZm
namespace Go.Proofs.YtemohaonhcmpkaaFmt
open Go.RowKit
set_option linter.unusedVariables false
set_option linter.unusedSimpArgs false

set_option maxHeartbeats 4000000 in
set_option maxRecDepth 100000 in
theorem pd_any (B p : Nat) (zs : List Int) (t : ByteArray) (fl : Int) (w : World) (hp : PrF w B p zs) (hB : B ≤ w.heap.size) (hl : zs.length ≤ 1048576) (ht : t.size ≤ 1048576) (hn : NHx t)
    {R o cap : Nat} (hF : Fold w R o cap) (hR : R < B) (h3 : 3 < B) (hT : Lib.Utf8Tabs 0 1 w) :
    Calls Tryf.prog 12 #[.pointer (some ⟨p, 0, none⟩), .string t, .int .u8 fl] w (PqE B p zs t (qof t) w) := by
  have HB := Lib.hid (best_any t false w ht)
  rw [qof_best] at HB
  have HP := Lib.hid (fun (w2 : World) (hb : Below w.heap.size w w2) => pq_any B p zs t (qof t) (qof_is t) fl w2 (hp.below hb) (Nat.le_trans hB hb.size) hl ht hn (hF.below hb (by omega) (by omega)) hR h3 (tabs_below hT hb (by omega) (by omega)))
  clear hp hF hT hn
  go_enter Tryf.func12, Tryf.ntmps12
  go_wp2_with (first
    | (go_at_call 15; refine HB.out.mono ?_; rintro e w2 ⟨rfl, h2⟩; have H2 := Lib.hid h2; clear h2)
    | (go_at_call 14; refine (HP.out _ H2.out).mono ?_; rintro e w3 ⟨rfl, h3, h4⟩; have H3 := Lib.hid (And.intro h3 h4); clear h3 h4))
  go_end0
  exact ⟨rfl, H3.out.1, (H2.out.mono hB).trans H3.out.2⟩
/-- what the door hands back -/
def PzE (B : Nat) (zs : List Int) (t : ByteArray) (q : Nat) (w : World) (e : Ending) (w' : World) : Prop := ∃ v, e = .returned v ∧ Own .u8 5 w' B v (zs ++ [(q : Int)] ++ body t q t.size ++ [(q : Int)]) ∧ Below B w w'
noncomputable def z59 : Array Value := cellsOf ((zeroValue 59).run Tryf.prog default)
theorem alloc59 (w : World) : (Instr.alloc 59 true (.tuple #[])).run Tryf.prog w = .ok (.pointer (some ⟨w.heap.size, 0, none⟩)) (w.alloc (.cells z59 59)) := by kernel_rfl
theorem size59 (l : Int) (ao : Option Addr) (n c : Nat) : z59.size = (prCells l false false (.slice ao n c) 0 0).size := by kernel_rfl
theorem info59 (l : Int) (ao : Option Addr) (n c : Nat) : (Tryf.prog.info? 59).map (·.size) = some (prCells l false false (.slice ao n c) 0 0).size := by kernel_rfl
theorem one59 (l : Int) (ao : Option Addr) (n c : Nat) : (prCells l false false (.slice ao n c) 0 0).all (·.oneCell') = true := by kernel_rfl
set_option maxHeartbeats 4000000 in
set_option maxRecDepth 100000 in
theorem pz_any (B : Nat) (ao : Option Addr) (zs : List Int) (t : ByteArray) (fl : Int) (w : World) (hin : In .u8 w ao zs) (hnone : ao = none → zs = []) (hB : B ≤ w.heap.size) (hl : zs.length ≤ 1048576) (ht : t.size ≤ 1048576) (hn : NHx t)
    {R o cap : Nat} (hF : Fold w R o cap) (hR : R < B) (h3 : 3 < B) (hT : Lib.Utf8Tabs 0 1 w) :
    Calls Tryf.prog 9 #[.slice ao zs.length zs.length, .int .i64 0, .string t, .int .u8 fl] w (PzE B zs t (qof t) w) := by
  obtain ⟨p, hp⟩ : ∃ p, w.heap.size = p := ⟨_, rfl⟩
  have hbl : Below B w (w.alloc (.cells (prCells 0 false false (.slice ao zs.length zs.length) 0 0) 59)) := (Below.refl _ _).alloc hB _
  have H1 : Hid (PrF (w.alloc (.cells (prCells 0 false false (.slice ao zs.length zs.length) 0 0) 59)) B p zs ∧ Below B w (w.alloc (.cells (prCells 0 false false (.slice ao zs.length zs.length) 0 0) 59))) := Lib.hid (by
    have hb := Blk.new w 59 (prCells 0 false false (.slice ao zs.length zs.length) 0 0)
    rw [hp] at hb
    exact ⟨⟨ao, hb, hin.alloc _, hnone, by omega⟩, hbl⟩)
  have HPD := Lib.hid (pd_any B p zs t fl _ H1.out.1 (by simp; omega) hl ht hn (hF.below hbl h3 hR) hR h3 (tabs_below hT hbl (by omega) (by omega)))
  clear hin hnone hF hT hn hbl
  go_enter Tryf.func9, Tryf.ntmps9
  go_upto_region 2 with (first
    | (refine wpList_build rfl 41 _ rfl [(3, .int .i64 0)] rfl (optCells 0 false false) (build41 0) ?_)
    | (refine wpList_build rfl 59 _ rfl [(0, .agg (optCells 0 false false)), (3, .slice ao zs.length zs.length)] rfl (prCells 0 false false (.slice ao zs.length zs.length) 0 0) (build59 0 ao zs.length zs.length) ?_)
    | (refine wpList_alloc_zero rfl 59 rfl z59 alloc59 ?_)
    | (refine wpList_store_new rfl 59 _ _ rfl z59 (prCells 0 false false (.slice ao zs.length zs.length) 0 0) rfl rfl (info59 _ _ _ _) (size59 _ _ _ _) (one59 _ _ _ _) ?_))
  try rw [hp]
  clear hp
  generalize w.alloc (.cells (prCells 0 false false (.slice ao zs.length zs.length) 0 0) 59) = w1 at H1 HPD ⊢
  go_upto_region 3 with (go_at_call 12; refine HPD.out.mono ?_; rintro e w2 ⟨rfl, h2, h3⟩; have H2 := Lib.hid (And.intro h2 h3); clear h2 h3)
  obtain ⟨ao2, c2, hb2, ho2, _, _⟩ := H2.out.1
  obtain ⟨zf, hzf⟩ : ∃ zf, zs ++ [((qof t : Nat) : Int)] ++ body t (qof t) t.size ++ [((qof t : Nat) : Int)] = zf := ⟨_, rfl⟩
  rw [hzf] at hb2 ho2
  have HZF := Lib.hid hzf
  clear hzf
  have c15 := (hb2.cell 15).trans (pr15 _ _ _ _ _ _ _ _)
  have lp := hb2.lt
  have HO := Lib.hid ho2
  clear hb2 ho2
  go_wp2_with fail
  go_ret
  exact ⟨_, rfl, by rw [HZF.out]; exact HO.out, H1.out.2.trans H2.out.2⟩
end Go.Proofs.YtemohaonhcmpkaaFmt
