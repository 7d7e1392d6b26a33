/-
  printWithEscape: the two ways that print no hexadecimal escape. No statement of the seat is proved here.
-/
import Derived.Test.YtemohaonhcmpkaaFmtPr
import Derived.Deep.RegionLaw
import Derived.Deep.DeepCutAuto
import Derived.Laws.IdiomCopy
import Derived.Lib.EndianMore
import Derived.Lib.RuneBytes
namespace Go.Proofs.YtemohaonhcmpkaaFmt
open Go.RowKit
set_option linter.unusedVariables false
set_option linter.unusedSimpArgs false

theorem Keep.below {w w' : World} {p : Nat} (h : Below w.heap.size w w') : Keep w w' p := fun k o h1 _ _ => below_blk h h1 (blk_lt h1)
theorem Pr.below {w w' : World} {B p : Nat} {l : Int} {m a : Bool} {zs : List Int} {s e : Int} (h : Pr w B p l m a zs s e) (hb : Below w.heap.size w w') : Pr w' B p l m a zs s e := by
  obtain ⟨ao, c, h1, h2, h3, h4⟩ := h
  exact ⟨ao, c, h1.kept hb, h2.kept hb, h3, h4⟩
theorem Pr.lt {w : World} {B p : Nat} {l : Int} {m a : Bool} {zs : List Int} {s e : Int} (h : Pr w B p l m a zs s e) : p < w.heap.size := by
  obtain ⟨ao, c, h1, h2, h3, h4⟩ := h
  exact h1.lt
/-- the buffer is stored back -/
theorem pr_push {w1 : World} {B p : Nat} {l : Int} {m a : Bool} {zs ys : List Int} {s e : Int} {ao ao' : Option Addr} {c c' n : Nat} (hb : Blk w1 p 59 (prCells l m a (.slice ao zs.length c) s e))
    (ho : Own .u8 5 w1 B (.slice ao' ys.length c') ys) (hne : (Value.slice ao' ys.length c').ownBlock ≠ some p) (hBp : B ≤ p) (hn : n = ys.length) : Pr (w1.setCell ⟨p, 15, none⟩ (.slice ao' n c')) B p l m a ys s e := by
  subst hn
  refine ⟨ao', c', ?_, ho.gb (gb_set (gb_refl _ _) 15 none _) (.inr hne), hne, hBp⟩
  have := hb.set 15 (.slice ao' ys.length c')
  rw [set15] at this
  exact this
/-- a value that has grown out of one that lies beside p lies beside p -/
theorem gr_ne {w w' : World} {v v' : Value} {p : Nat} (h : Gr w v w' v') (hv : v.ownBlock ≠ some p) (hp : p < w.heap.size) : v'.ownBlock ≠ some p := by
  rcases h.2 with e | ⟨g, e, hg⟩
  · rw [e]; exact hv
  · rw [e]; intro c; cases c; omega
def temp : Array Value := #[.int .u8 0, .int .u8 0, .int .u8 0, .int .u8 0]
/-- the world behind EncodeRune into block n -/
def enc (w : World) (n : Nat) (c : Int) : World := w.setCells n 0 (Lib.runeCells c)
theorem gb_setCells (n : Nat) : ∀ (vs : List Value) (o : Nat) (w a : World), a.grownBy w (some n) → a.grownBy (w.setCells n o vs) (some n)
  | [], _, _, _, h => h
  | v :: vs, o, w, a, h => gb_setCells n vs (o + 1) (w.setCell ⟨n, o, none⟩ v) a (gb_set h o none v)
theorem enc_gb (w : World) (n : Nat) (c : Int) : w.grownBy (enc w n c) (some n) := gb_setCells n _ _ _ _ (gb_refl _ _)
theorem enc_below (w : World) (B n : Nat) (c : Int) (h : B ≤ n) : Below B w (enc w n c) := Go.Lib.below_setCells_w h _ _ _
theorem rune_len (c : Int) : 1 ≤ (Lib.encodeRuneZ c).length ∧ (Lib.encodeRuneZ c).length ≤ 4 := by
  have := Lib.runeCells_le c
  simpa [Lib.runeCells] using this
theorem rc_len (c : Int) : (Lib.runeCells c).length = (Lib.encodeRuneZ c).length := by simp [Lib.runeCells]
theorem temp_cell {w : World} {n : Nat} (h : Blk w n 74 temp) (j : Nat) (hj : j < 4) : w.cell? ⟨n, 0 + j, none⟩ = some (.int .u8 0) := by
  rw [h.cell]
  rcases (show j = 0 ∨ j = 1 ∨ j = 2 ∨ j = 3 by omega) with rfl | rfl | rfl | rfl <;> rfl
theorem enc_cell {w : World} {n : Nat} (h : Blk w n 74 temp) (c : Int) (j : Nat) (hj : j < (Lib.encodeRuneZ c).length) : (enc w n c).cell? ⟨n, 0 + j, none⟩ = some (.int .u8 (nth (Lib.encodeRuneZ c) j)) := by
  have h4 := (rune_len c).2
  have hl := rc_len c
  unfold enc
  rw [World.cell?_setCells_in n (Lib.runeCells c) 0 _ (fun i hi => by rw [temp_cell h i (by omega)]; rfl) j (by omega)]
  rw [nth_get _ _ hj]
  simp [Lib.runeCells]
theorem enc_call {w : World} {n : Nat} (h : Blk w n 74 temp) (c : Int) (h1 : -2147483648 ≤ c) (h2 : c ≤ 2147483647) :
    Calls Tryf.prog 23 #[.slice (some ⟨n, 0, none⟩) 4 4, .int .i32 c] w fun e w' => e = .returned (.int .i64 (Lib.encodeRuneZ c).length) ∧ w' = enc w n c := by
  have h4 := (rune_len c).2
  have hl := rc_len c
  have := Tryf.utf8_EncodeRune n 0 4 4 c h1 h2 w (by omega) (fun j hj => by rw [temp_cell h j (by omega)]; rfl) (fun j hj => h.free _)
  rw [hl] at this
  exact this
/-- a printer in its parts: block p, the buffer's slice -/
def PrAt (w : World) (B p n : Nat) (l : Int) (m a : Bool) (ao : Option Addr) (k : Nat) (zs : List Int) (s e : Int) : Prop :=
  Blk w p 59 (prCells l m a (.slice ao zs.length k) s e) ∧ Own .u8 5 w B (.slice ao zs.length k) zs ∧ (Value.slice ao zs.length k).ownBlock ≠ some p ∧ (Value.slice ao zs.length k).ownBlock ≠ some n
theorem PrAt.enc {w : World} {B p n : Nat} {l : Int} {m a : Bool} {ao : Option Addr} {k : Nat} {zs : List Int} {s e : Int} (h : PrAt w B p n l m a ao k zs s e) (hn : n ≠ p) (c : Int) : PrAt (enc w n c) B p n l m a ao k zs s e :=
  ⟨h.1.gb (enc_gb w n c) (fun e => hn (Option.some.inj e).symm), h.2.1.gb (enc_gb w n c) (.inr h.2.2.2), h.2.2⟩
/-- behind an append and the store of what it gave -/
theorem PrAt.push {w w1 : World} {B p n : Nat} {l : Int} {m a : Bool} {ao ao' : Option Addr} {k k' : Nat} {zs ys : List Int} {s e : Int} (h : PrAt w B p n l m a ao k zs s e) (hp : p < w.heap.size) (hn : n < w.heap.size)
    (ho : Own .u8 5 w1 B (.slice ao' ys.length k') ys) (hg : Gr w (.slice ao zs.length k) w1 (.slice ao' ys.length k')) (j : Nat) (hj : j = ys.length) :
    PrAt (w1.setCell ⟨p, 15, none⟩ (.slice ao' j k')) B p n l m a ao' k' ys s e := by
  subst hj
  have hne := gr_ne hg h.2.2.1 hp
  have hb := (h.1.gb hg.1 (fun e => h.2.2.1 e.symm)).set 15 (.slice ao' ys.length k')
  rw [set15] at hb
  exact ⟨hb, ho.gb (gb_set (gb_refl _ _) 15 none _) (.inr hne), hne, gr_ne hg h.2.2.2 hn⟩
theorem PrAt.pr {w : World} {B p n : Nat} {l : Int} {m a : Bool} {ao : Option Addr} {k : Nat} {zs : List Int} {s e : Int} (h : PrAt w B p n l m a ao k zs s e) (hB : B ≤ p) : Pr w B p l m a zs s e := ⟨ao, k, h.1, h.2.1, h.2.2.1, hB⟩
theorem pr_at {w : World} {B p : Nat} {l : Int} {m a : Bool} {zs : List Int} {s e : Int} (h : Pr w B p l m a zs s e) (o : Obj) : B ≤ p ∧ p < w.heap.size ∧ ∃ ao k, PrAt (w.alloc o) B p w.heap.size l m a ao k zs s e := by
  obtain ⟨ao, k, h1, h2, h3, h4⟩ := h
  refine ⟨h4, h1.lt, ao, k, h1.alloc o, h2.alloc o, h3, fun e => ?_⟩
  have := (h2.lt _ e).2
  omega
/-- what stays, of a step from w to w', but blocks p and n -/
def Kn (w w' : World) (p n : Nat) : Prop := ∀ k o, w.heap[k]? = some o → NB o → k ≠ p → k ≠ n → w'.heap[k]? = some o
theorem Kn.trans {a b c : World} {p n : Nat} (h : Kn a b p n) (k : Kn b c p n) : Kn a c p n := fun i o h1 h2 h3 h4 => k i o (h i o h1 h2 h3 h4) h2 h3 h4
theorem Keep.kn {w w' : World} {p n : Nat} (h : Keep w w' p) : Kn w w' p n := fun k o h1 h2 h3 _ => h k o h1 h2 h3
theorem kn_enc (w : World) (p n : Nat) (c : Int) : Kn w (enc w n c) p n := fun k o h1 _ _ h4 => gb_blk (enc_gb w n c) h1 (fun e => h4 (Option.some.inj e))
theorem Kn.keep {w w' : World} {p : Nat} (o : Obj) (h : Kn (w.alloc o) w' p w.heap.size) : Keep w w' p := fun k o' h1 h2 h3 => h k o' (blk_alloc h1 o) h2 h3 (fun e => by have := blk_lt h1; omega)
/-- all that one append and store do -/
theorem PrAt.step {w w1 w0 : World} {B p n : Nat} {l : Int} {m a : Bool} {ao ao' : Option Addr} {k k' : Nat} {zs ys : List Int} {s e : Int} (h : PrAt w B p n l m a ao k zs s e) (hBp : B ≤ p) (hn : n < w.heap.size) (hB : B ≤ w.heap.size)
    (hb : Below B w0 w) (hk : Kn w0 w p n)
    (ho : Own .u8 5 w1 B (.slice ao' ys.length k') ys) (hg : Gr w (.slice ao zs.length k) w1 (.slice ao' ys.length k')) (j : Nat) (hj : j = ys.length) :
    PrAt (w1.setCell ⟨p, 15, none⟩ (.slice ao' j k')) B p n l m a ao' k' ys s e ∧ Below B w0 (w1.setCell ⟨p, 15, none⟩ (.slice ao' j k')) ∧ Kn w0 (w1.setCell ⟨p, 15, none⟩ (.slice ao' j k')) p n :=
  ⟨h.push h.1.lt hn ho hg j hj, (hg.below hb hB (fun g hg => (h.2.1.lt g hg).1)).setCell hBp _, hk.trans (Keep.kn (keep_set (keep_gr h.2.1 hg) 15 _))⟩
set_option maxHeartbeats 1000000 in
set_option maxRecDepth 100000 in
theorem pwe_none (B p : Nat) (l : Int) (m a : Bool) (zs : List Int) (s e : Int) (c : Int) (r : ByteArray) (b : Bool) (w : World) (hp : Pr w B p l m a zs s e) (h1 : -2147483648 ≤ c) (h2 : c ≤ 2147483647) (hl : zs.length + 8 ≤ 140737488355328) (hB : B ≤ w.heap.size) :
    Calls Tryf.prog 20 #[.pointer (some ⟨p, 0, none⟩), .int .i32 c, .int .u8 0, .string r, .bool b] w fun en w' => en = .returned (.tuple #[]) ∧ Pr w' B p l m a (zs ++ Lib.encodeRuneZ c) s e ∧ Below B w w' ∧ Keep w w' p := by
  obtain ⟨hBp, hlt, ao, k, hat⟩ := pr_at hp (.cells temp 74)
  have hnp : w.heap.size ≠ p := by omega
  have hA := hat.enc hnp c
  have ht := Blk.new w 74 temp
  have hzz : (w.alloc (.cells temp 74)).heap.size = w.heap.size + 1 := by simp
  have zE := (enc_gb (w.alloc (.cells temp 74)) w.heap.size c).size
  have HB := Lib.hid (And.intro (((Below.refl _ _).alloc hB _ : Below B w _).trans (enc_below (w.alloc (.cells temp 74)) B w.heap.size c hB)) (kn_enc (w.alloc (.cells temp 74)) p w.heap.size c))
  have c15 := (hA.1.drew.cell 15).trans (pr15 _ _ _ _ _ _ _ _)
  have ltE := hA.1.lt
  have HP := Lib.hid hA
  have HC := Lib.hid (enc_call ht c h1 h2)
  have HL := Lib.hid (And.intro (rune_len c) (And.intro hl (show w.heap.size < (enc (w.alloc (.cells temp 74)) w.heap.size c).heap.size by omega)))
  have hw1 : ((Lib.encodeRuneZ c).length : Int) ≤ 4 := by have := (rune_len c).2; omega
  have HX := Lib.hid (fun j hj => enc_cell ht c j hj)
  have hz : (zeroValue 74).run Tryf.prog w = .ok (.agg temp) w := by kernel_rfl
  clear hat hA ht hzz zE hl h1 h2
  go_enter Tryf.func20, Tryf.ntmps20
  go_wp2_with (go_at_call 23; refine HC.out.mono ?_; rintro e w' ⟨rfl, rfl⟩)
  go_region_law (refine step_pushs rfl (.tmp 51) (.tmp 53) 22 rfl B 5 .u8 1 Tryf.underlying22 u8_info (.slice ao zs.length k) zs (Lib.encodeRuneZ c) (by simp [Act.eval, Act.put]) HP.out.2.1.drew w.heap.size 0 (Lib.encodeRuneZ c).length 4 (by simp [Act.eval, Act.put]) rfl HX.out (by have := HL.out.1; have := HL.out.2; unfold maxLen; omega) (by have := HL.out.1; have := HL.out.2; omega) (by have := HL.out.2.2; exact Nat.le_trans hB (Nat.le_of_lt this)) ?_; intro v' w1 ho1 hg1; obtain ⟨ao', cap', rfl, hin', hc', hf'⟩ := ho1.form; have hb1 := HP.out.1.drew.gb hg1.1 (fun h => HP.out.2.2.1 h.symm); have c15' := (hb1.cell 15).trans (pr15 _ _ _ _ _ _ _ _); have f15' := hb1.free 15; have hlt' := hb1.lt; have HO := Lib.hid (And.intro ho1 hg1); clear hb1 ho1 hg1 hin' hc' hf')
  have hfin := fun j hj => PrAt.step (w0 := w) (w := (enc (w.alloc (.cells temp 74)) w.heap.size c).drew) HP.out hBp HL.out.2.2 (Nat.le_trans hB (Nat.le_of_lt HL.out.2.2)) HB.out.1.drew (fun k o h1 h2 h3 h4 => HB.out.2 k o (blk_alloc h1 _) h2 h3 h4) HO.out.1 HO.out.2 j hj
  have HF := Lib.hid hfin
  clear hfin
  go_end0
  have hf := HF.out (zs.length + (Lib.encodeRuneZ c).length) (by simp)
  exact ⟨rfl, hf.1.pr hBp, hf.2.1, fun k o h1 h2 h3 => hf.2.2 k o h1 h2 h3 (fun e => by have := blk_lt h1; omega)⟩
/-- c is a hexadecimal digit -/
def hexd (c : Int) : Prop := (48 ≤ c ∧ c ≤ 57) ∨ (97 ≤ c ∧ c ≤ 102) ∨ (65 ≤ c ∧ c ≤ 70)
set_option maxHeartbeats 2000000 in
set_option maxRecDepth 100000 in
theorem pwe_bs (B p : Nat) (l : Int) (m a : Bool) (zs : List Int) (s e : Int) (c : Int) (r : ByteArray) (b : Bool) (w : World) (hp : Pr w B p l m a zs s e) (h1 : -2147483648 ≤ c) (h2 : c ≤ 2147483647) (hx : ¬ hexd c) (hl : zs.length + 8 ≤ 140737488355328) (hB : B ≤ w.heap.size) :
    Calls Tryf.prog 20 #[.pointer (some ⟨p, 0, none⟩), .int .i32 c, .int .u8 1, .string r, .bool b] w fun en w' => en = .returned (.tuple #[]) ∧ Pr w' B p l m a ((zs ++ [92]) ++ Lib.encodeRuneZ c) s e ∧ Below B w w' ∧ Keep w w' p := by
  obtain ⟨hBp, hlt, ao, k, hat⟩ := pr_at hp (.cells temp 74)
  have hnp : w.heap.size ≠ p := by omega
  have ht := Blk.new w 74 temp
  obtain ⟨w0, hw0⟩ : ∃ w0, w.alloc (.cells temp 74) = w0 := ⟨_, rfl⟩
  have hz0 : w0.heap.size = w.heap.size + 1 := by rw [← hw0]; simp
  have hB0 : B ≤ w0.heap.size := by omega
  have hb0 : Below B w w0 := by rw [← hw0]; exact (Below.refl _ _).alloc hB _
  rw [hw0] at hat ht
  have c15 := (hat.1.cell 15).trans (pr15 _ _ _ _ _ _ _ _)
  have lt0 := hat.1.lt
  have HP := Lib.hid hat
  have HL := Lib.hid (And.intro (rune_len c) hl)
  have HT := Lib.hid (And.intro ht (And.intro hb0 (And.intro hw0 hz0)))
  have hw1 : ((Lib.encodeRuneZ c).length : Int) ≤ 4 := by have := (rune_len c).2; omega
  have hz : (zeroValue 74).run Tryf.prog w = .ok (.agg temp) w := by kernel_rfl
  have hways : c < 48 ∨ (57 < c ∧ c < 65) ∨ (70 < c ∧ c < 97) ∨ 102 < c := by unfold hexd at hx; omega
  clear hat ht hl hx hb0 hz0
  rcases hways with k1 | ⟨k1, k2⟩ | ⟨k1, k2⟩ | k1
  all_goals
    go_enter Tryf.func20, Tryf.ntmps20
    go_upto_region 8 with fail
    try rw [hw0]
    go_wp2_with (at_builtin; refine wpList_push w0 rfl (.tmp 63) (.tmp 64) 22 rfl B 5 .u8 1 Tryf.underlying22 u8_info (.slice ao zs.length k) zs 92 rfl HP.out.2.1 rfl (by have := HL.out.2; unfold maxLen; omega) (by have := HL.out.2; omega) hB0 ?_; intro v' w1 ho1 hg1 hn1; obtain ⟨ao', cap', rfl, hin', hc', hf'⟩ := ho1.form; have hb1 := HP.out.1.gb hg1.1 (fun h => HP.out.2.2.1 h.symm); have c15' := (hb1.cell 15).trans (pr15 _ _ _ _ _ _ _ _); have f15' := hb1.free 15; have hlt' := hb1.lt; have HO := Lib.hid (And.intro ho1 hg1); clear hb1 ho1 hg1 hn1 hin' hc' hf')
    have hs := PrAt.step (w0 := w) HP.out hBp (by have := HT.out.2.2.2; omega) hB0 HT.out.2.1 (by rw [← hw0]; exact fun k o h1 _ _ _ => blk_alloc h1 _) HO.out.1 HO.out.2 (zs.length + 1) (by simp)
    have hT := ((HT.out.1.gb HO.out.2.1 (fun h => HP.out.2.2.2 h.symm)).gb (gb_set (gb_refl _ _) 15 none (.slice ao' (zs.length + 1) cap')) (fun h => hnp (Option.some.inj h)))
    obtain ⟨w2, hw2⟩ : ∃ w2, w1.setCell ⟨p, 15, none⟩ (.slice ao' (zs.length + 1) cap') = w2 := ⟨_, rfl⟩
    rw [hw2] at hs hT
    rw [hw2]
    have hA := hs.1.enc hnp c
    have zE := (enc_gb w2 w.heap.size c).size
    have c15e := (hA.1.drew.cell 15).trans (pr15 _ _ _ _ _ _ _ _)
    have ltE := hA.1.lt
    have HC := Lib.hid (enc_call hT c h1 h2)
    have HX := Lib.hid (fun j hj => enc_cell hT c j hj)
    have HQ := Lib.hid (And.intro hA (And.intro (hs.2.1.trans (enc_below w2 B w.heap.size c hB)) (And.intro (hs.2.2.trans (kn_enc w2 p w.heap.size c)) (show w.heap.size < (enc w2 w.heap.size c).heap.size from Nat.lt_of_lt_of_le hT.lt zE))))
    clear hs hT hA zE c15' f15' hlt' hw2 c15 hw0 lt0 HO HP HT
    go_wp2_with (go_at_call 23; refine HC.out.mono ?_; rintro e w' ⟨rfl, rfl⟩)
    go_region_law (refine step_pushs rfl (.tmp 75) (.tmp 77) 22 rfl B 5 .u8 1 Tryf.underlying22 u8_info (.slice ao' (zs ++ [92]).length cap') (zs ++ [92]) (Lib.encodeRuneZ c) (by simp [Act.eval, Act.put]) HQ.out.1.2.1.drew w.heap.size 0 (Lib.encodeRuneZ c).length 4 (by simp [Act.eval, Act.put]) rfl HX.out (by have := HL.out.1; have := HL.out.2; unfold maxLen; simp; omega) (by have := HL.out.1; have := HL.out.2; simp; omega) (Nat.le_trans hB (Nat.le_of_lt HQ.out.2.2.2)) ?_; intro v' w3 ho1 hg1; obtain ⟨ao2, cap2, rfl, hin', hc', hf'⟩ := ho1.form; have hb1 := HQ.out.1.1.drew.gb hg1.1 (fun h => HQ.out.1.2.2.1 h.symm); have c15' := (hb1.cell 15).trans (pr15 _ _ _ _ _ _ _ _); have f15' := hb1.free 15; have hlt' := hb1.lt; have HO := Lib.hid (And.intro ho1 hg1); clear hb1 ho1 hg1 hin' hc' hf')
    have HF := Lib.hid (fun j hj => PrAt.step (w0 := w) (w := (enc w2 w.heap.size c).drew) HQ.out.1 hBp HQ.out.2.2.2 (Nat.le_trans hB (Nat.le_of_lt HQ.out.2.2.2)) HQ.out.2.1.drew (fun k o h1 h2 h3 h4 => HQ.out.2.2.1 k o h1 h2 h3 h4) HO.out.1 HO.out.2 j hj)
    go_end0
    have hf := HF.out (zs.length + ((Lib.encodeRuneZ c).length + 1)) (by simp)
    exact ⟨rfl, hf.1.pr hBp, hf.2.1, fun k o h1 h2 h3 => hf.2.2 k o h1 h2 h3 (fun e => by have := blk_lt h1; omega)⟩
end Go.Proofs.YtemohaonhcmpkaaFmt
