/-
  zzBuild: the symbol table that the law lays. No statement of the seat is proved here.
-/
import Derived.Test.YtmpfgkiljfoicaaDoorBh
import Derived.Test.YtmpfgkiljfoicaaDoorAc
import Derived.Deep.OwnRows
import Derived.Deep.CutBlock
namespace Go.Proofs.YtmpfgkiljfoicaaDoor
open Go.RowKit
set_option linter.unusedVariables false
set_option linter.unusedSimpArgs false

theorem Blk.has {w : World} {S : Nat} {t : TypeId} {cs : Array Value} (h : Blk w S t cs) {i : Nat} (hi : i < cs.size) : ∃ u, w.cell? ⟨S, i, none⟩ = some u := ⟨cs[i], by rw [h.cell, Array.getElem?_eq_getElem hi]⟩
def zsym (e0 : ByteArray) : Array Value := #[.pointer none, .string e0, .int .u32 0, .int .u32 0, .int .u32 0, .int .u32 0, .int .u32 0, .int .u16 0, .int .u8 0, .int .u8 0]
theorem info67 : (Tryd.prog.info? 67).map (fun i => (i.zero, i.size, i.bytes)) = some (some (.agg (zsym ByteArray.empty)), 10, 48) := by kernel_rfl
/-- symbol i: its cells as they stand -/
structure Row (cs : Array Value) (i : Nat) (l2 l3 x f k : Int) : Prop where
  alias : cs[i * 10]? = some (.pointer none)
  l2 : cs[i * 10 + 2]? = some (.int .u32 l2)
  l3 : cs[i * 10 + 3]? = some (.int .u32 l3)
  nest : cs[i * 10 + 6]? = some (.int .u32 x)
  flags : cs[i * 10 + 7]? = some (.int .u16 f)
  kind : cs[i * 10 + 8]? = some (.int .u8 k)
def lkOf : Option Nat → Int × Int | none => (4294967295, 4294967295) | some l => (0, (l : Int))
def nxOf : Option Nat → Int | none => 0 | some s => 4294967295 - (s : Int)
def kdOf (k : Int) : Int := if k % 3 = 0 then 27 else if k % 3 = 1 then 18 else 0
/-- symbol i, laid -/
def Fnd (cs : Array Value) (ks fs ns ls : List Int) (c i : Nat) : Prop := Row cs i (lkOf (lnk ls i)).1 (lkOf (lnk ls i)).2 (nxOf (nst ns c i)) (nth fs i % 4) (kdOf (nth ks i))
structure Bt (w : World) (S n k : Nat) (ks fs ns ls : List Int) (c : Nat) : Prop where
  out : ∃ cs, Blk w S 67 cs ∧ cs.size = 10 * n ∧ (∀ i, i < k → Fnd cs ks fs ns ls c i) ∧ ∀ i, k ≤ i → i < n → Row cs i 0 0 0 0 0
/-- symbol i under way -/
structure Bi (w : World) (S n i : Nat) (ks fs ns ls : List Int) (c : Nat) (l2 l3 x f k : Int) : Prop where
  out : ∃ cs, Blk w S 67 cs ∧ cs.size = 10 * n ∧ (∀ j, j < i → Fnd cs ks fs ns ls c j) ∧ (∀ j, i < j → j < n → Row cs j 0 0 0 0 0) ∧ Row cs i l2 l3 x f k
theorem Row.far {cs : Array Value} {i j : Nat} {l2 l3 x f k : Int} (h : Row cs j l2 l3 x f k) (p : Nat) (v : Value) (hp : i * 10 ≤ p ∧ p < i * 10 + 10) (hne : j ≠ i) : Row (cs.setIfInBounds p v) j l2 l3 x f k :=
  ⟨by rw [Array.getElem?_setIfInBounds_ne (by omega)]; exact h.alias, by rw [Array.getElem?_setIfInBounds_ne (by omega)]; exact h.l2, by rw [Array.getElem?_setIfInBounds_ne (by omega)]; exact h.l3, by rw [Array.getElem?_setIfInBounds_ne (by omega)]; exact h.nest, by rw [Array.getElem?_setIfInBounds_ne (by omega)]; exact h.flags, by rw [Array.getElem?_setIfInBounds_ne (by omega)]; exact h.kind⟩
theorem Row.lt {cs : Array Value} {i : Nat} {l2 l3 x f k : Int} (h : Row cs i l2 l3 x f k) : i * 10 + 8 < cs.size := (Array.getElem?_eq_some_iff.1 h.kind).1
section
variable {w w' : World} {S n i : Nat} {ks fs ns ls : List Int} {c : Nat} {l2 l3 x f k : Int}
theorem Bi.gb (h : Bi w S n i ks fs ns ls c l2 l3 x f k) {r : Option Nat} (hg : w.grownBy w' r) (hne : some S ≠ r) : Bi w' S n i ks fs ns ls c l2 l3 x f k := by
  obtain ⟨cs, h1, h2, h3, h4, h5⟩ := h.out
  exact ⟨cs, h1.gb hg hne, h2, h3, h4, h5⟩
theorem Bt.gb (h : Bt w S n i ks fs ns ls c) {r : Option Nat} (hg : w.grownBy w' r) (hne : some S ≠ r) : Bt w' S n i ks fs ns ls c := by
  obtain ⟨cs, h1, h2, h3⟩ := h.out
  exact ⟨cs, h1.gb hg hne, h2, h3⟩
theorem Bt.open_ (h : Bt w S n i ks fs ns ls c) (hi : i < n) : Bi w S n i ks fs ns ls c 0 0 0 0 0 := by
  obtain ⟨cs, h1, h2, h3, h4⟩ := h.out
  exact ⟨cs, h1, h2, h3, fun j hj hn => h4 j (by omega) hn, h4 i (Nat.le_refl _) hi⟩
theorem Bi.close (h : Bi w S n i ks fs ns ls c (lkOf (lnk ls i)).1 (lkOf (lnk ls i)).2 (nxOf (nst ns c i)) (nth fs i % 4) (kdOf (nth ks i))) : Bt w S n (i + 1) ks fs ns ls c := by
  obtain ⟨cs, h1, h2, h3, h4, h5⟩ := h.out
  refine ⟨cs, h1, h2, fun j hj => ?_, fun j hj hn => h4 j (by omega) hn⟩
  by_cases e : j = i
  · subst e; exact h5
  · exact h3 j (by omega)
theorem Bi.lt (h : Bi w S n i ks fs ns ls c l2 l3 x f k) : S < w.heap.size := by
  obtain ⟨cs, h1, h2, h3, h4, h5⟩ := h.out
  exact h1.lt
theorem Bi.cell (h : Bi w S n i ks fs ns ls c l2 l3 x f k) : w.cell? ⟨S, i * 10 + 2, none⟩ = some (.int .u32 l2) ∧ w.cell? ⟨S, i * 10 + 2 + 1, none⟩ = some (.int .u32 l3) ∧ w.cell? ⟨S, i * 10 + 6, none⟩ = some (.int .u32 x) ∧ w.cell? ⟨S, i * 10 + 7, none⟩ = some (.int .u16 f) ∧ w.cell? ⟨S, i * 10 + 8, none⟩ = some (.int .u8 k) := by
  obtain ⟨cs, h1, h2, h3, h4, h5⟩ := h.out
  exact ⟨by rw [h1.cell]; exact h5.l2, by rw [h1.cell]; exact h5.l3, by rw [h1.cell]; exact h5.nest, by rw [h1.cell]; exact h5.flags, by rw [h1.cell]; exact h5.kind⟩
theorem Bi.free (h : Bi w S n i ks fs ns ls c l2 l3 x f k) (p : Nat) : w.frozen? ⟨S, p, none⟩ = false := by
  obtain ⟨cs, h1, h2, h3, h4, h5⟩ := h.out
  exact h1.free p
theorem Bi.set (h : Bi w S n i ks fs ns ls c l2 l3 x f k) (p : Nat) (v : Value) (hp : i * 10 ≤ p ∧ p < i * 10 + 10) {l2' l3' x' f' k' : Int} (hr : ∀ cs, Row cs i l2 l3 x f k → Row (cs.setIfInBounds p v) i l2' l3' x' f' k') :
    Bi (w.setCell ⟨S, p, none⟩ v) S n i ks fs ns ls c l2' l3' x' f' k' := by
  obtain ⟨cs, h1, h2, h3, h4, h5⟩ := h.out
  exact ⟨_, h1.set p v, by simp [h2], fun j hj => (h3 j hj).far p v hp (by omega), fun j hj hn => (h4 j hj hn).far p v hp (by omega), hr cs h5⟩
theorem Bi.setL (h : Bi w S n i ks fs ns ls c l2 l3 x f k) (a b : Int) : Bi ((w.setCell ⟨S, i * 10 + 2, none⟩ (.int .u32 a)).setCell ⟨S, i * 10 + 2 + 1, none⟩ (.int .u32 b)) S n i ks fs ns ls c a b x f k := by
  refine (h.set (i * 10 + 2) (.int .u32 a) (by omega) (l2' := a) (l3' := l3) (x' := x) (f' := f) (k' := k) (fun cs hr => ?_)).set (i * 10 + 2 + 1) (.int .u32 b) (by omega) (fun cs hr => ?_)
  · have hl := hr.lt
    exact ⟨by rw [Array.getElem?_setIfInBounds_ne (by omega)]; exact hr.alias, Array.getElem?_setIfInBounds_self_of_lt (by omega), by rw [Array.getElem?_setIfInBounds_ne (by omega)]; exact hr.l3, by rw [Array.getElem?_setIfInBounds_ne (by omega)]; exact hr.nest, by rw [Array.getElem?_setIfInBounds_ne (by omega)]; exact hr.flags, by rw [Array.getElem?_setIfInBounds_ne (by omega)]; exact hr.kind⟩
  · have hl := hr.lt
    exact ⟨by rw [Array.getElem?_setIfInBounds_ne (by omega)]; exact hr.alias, by rw [Array.getElem?_setIfInBounds_ne (by omega)]; exact hr.l2, Array.getElem?_setIfInBounds_self_of_lt (by omega), by rw [Array.getElem?_setIfInBounds_ne (by omega)]; exact hr.nest, by rw [Array.getElem?_setIfInBounds_ne (by omega)]; exact hr.flags, by rw [Array.getElem?_setIfInBounds_ne (by omega)]; exact hr.kind⟩
theorem Bi.setX (h : Bi w S n i ks fs ns ls c l2 l3 x f k) (a : Int) : Bi (w.setCell ⟨S, i * 10 + 6, none⟩ (.int .u32 a)) S n i ks fs ns ls c l2 l3 a f k :=
  h.set (i * 10 + 6) (.int .u32 a) (by omega) (fun cs hr => by
    have hl := hr.lt
    exact ⟨by rw [Array.getElem?_setIfInBounds_ne (by omega)]; exact hr.alias, by rw [Array.getElem?_setIfInBounds_ne (by omega)]; exact hr.l2, by rw [Array.getElem?_setIfInBounds_ne (by omega)]; exact hr.l3, Array.getElem?_setIfInBounds_self_of_lt (by omega), by rw [Array.getElem?_setIfInBounds_ne (by omega)]; exact hr.flags, by rw [Array.getElem?_setIfInBounds_ne (by omega)]; exact hr.kind⟩)
theorem Bi.setF (h : Bi w S n i ks fs ns ls c l2 l3 x f k) (a : Int) : Bi (w.setCell ⟨S, i * 10 + 7, none⟩ (.int .u16 a)) S n i ks fs ns ls c l2 l3 x a k :=
  h.set (i * 10 + 7) (.int .u16 a) (by omega) (fun cs hr => by
    have hl := hr.lt
    exact ⟨by rw [Array.getElem?_setIfInBounds_ne (by omega)]; exact hr.alias, by rw [Array.getElem?_setIfInBounds_ne (by omega)]; exact hr.l2, by rw [Array.getElem?_setIfInBounds_ne (by omega)]; exact hr.l3, by rw [Array.getElem?_setIfInBounds_ne (by omega)]; exact hr.nest, Array.getElem?_setIfInBounds_self_of_lt (by omega), by rw [Array.getElem?_setIfInBounds_ne (by omega)]; exact hr.kind⟩)
theorem Bi.setK (h : Bi w S n i ks fs ns ls c l2 l3 x f k) (a : Int) : Bi (w.setCell ⟨S, i * 10 + 8, none⟩ (.int .u8 a)) S n i ks fs ns ls c l2 l3 x f a :=
  h.set (i * 10 + 8) (.int .u8 a) (by omega) (fun cs hr => by
    have hl := hr.lt
    exact ⟨by rw [Array.getElem?_setIfInBounds_ne (by omega)]; exact hr.alias, by rw [Array.getElem?_setIfInBounds_ne (by omega)]; exact hr.l2, by rw [Array.getElem?_setIfInBounds_ne (by omega)]; exact hr.l3, by rw [Array.getElem?_setIfInBounds_ne (by omega)]; exact hr.nest, by rw [Array.getElem?_setIfInBounds_ne (by omega)]; exact hr.flags, Array.getElem?_setIfInBounds_self_of_lt (by omega)⟩)
end
theorem made_raw (e0 : ByteArray) (n i : Nat) (hi : i < n) : Row (madeCells (Value.agg (zsym e0)).cells (n * 10)) i 0 0 0 0 0 := by
  have h0 : (i * 10) % 10 = 0 := by omega
  have h2 : (i * 10 + 2) % 10 = 2 := by omega
  have h3 : (i * 10 + 3) % 10 = 3 := by omega
  have h6 : (i * 10 + 6) % 10 = 6 := by omega
  have h7 : (i * 10 + 7) % 10 = 7 := by omega
  have h8 : (i * 10 + 8) % 10 = 8 := by omega
  refine ⟨?_, ?_, ?_, ?_, ?_, ?_⟩ <;> (rw [Array.getElem?_eq_getElem (by simp [madeCells, zsym, Value.cells]; omega)])
  · simp [madeCells, zsym, Value.cells, h0]
  · simp [madeCells, zsym, Value.cells, h2]
  · simp [madeCells, zsym, Value.cells, h3]
  · simp [madeCells, zsym, Value.cells, h6]
  · simp [madeCells, zsym, Value.cells, h7]
  · simp [madeCells, zsym, Value.cells, h8]
theorem info57 : (Tryd.prog.info? 57).map (fun i => (i.zero, i.size, i.bytes)) = some (some (.slice none 0 0), 1, 24) := by kernel_rfl
structure B4 (w : World) (a0 a1 a2 a4 : Option Addr) (ks fs ns ls : List Int) : Prop where
  i0 : In .u8 w a0 ks
  i1 : In .u8 w a1 fs
  i2 : In .u32 w a2 ns
  i4 : In .u32 w a4 ls
theorem B4.kept {w w' : World} {a0 a1 a2 a4 : Option Addr} {ks fs ns ls : List Int} (h : B4 w a0 a1 a2 a4 ks fs ns ls) (hb : Below w.heap.size w w') : B4 w' a0 a1 a2 a4 ks fs ns ls :=
  ⟨h.i0.kept hb, h.i1.kept hb, h.i2.kept hb, h.i4.kept hb⟩
/-- the loop's world -/
structure Bw (w wx : World) (Y S : Nat) : Prop where
  s : w.heap.size ≤ Y ∧ Y < S
  bl : Below w.heap.size w wx
  y : Blk wx Y 36 #[.slice none 0 0]
theorem Bw.step {w wx wy : World} {Y S : Nat} (h : Bw w wx Y S) (hg : wx.grownBy wy (some S)) : Bw w wy Y S :=
  ⟨h.s, h.bl.grown hg h.bl.size (fun k hk => by have := h.s; have := Option.some.inj hk; omega), h.y.gb hg (fun e => by have := h.s; have := Option.some.inj e; omega)⟩
theorem and1_u8 (f : Int) (h0 : 0 ≤ f) (h1 : f < 256) : bits BinOp.and IntKind.u8 f 1 = f % 2 := by
  obtain ⟨m, rfl⟩ : ∃ m : Nat, f = (m : Int) := ⟨f.toNat, by omega⟩
  have := u8_and_nat m 1 (by omega) (by omega)
  rw [show ((1 : Nat) : Int) = 1 from rfl] at this
  rw [this, Nat.and_one_is_mod]
  omega
set_option maxRecDepth 100000 in
theorem and2_u8 (f : Int) (h0 : 0 ≤ f) (h1 : f < 256) : bits BinOp.and IntKind.u8 f 2 = f / 2 % 2 * 2 := by
  obtain ⟨m, rfl⟩ : ∃ m : Nat, f = (m : Int) := ⟨f.toNat, by omega⟩
  have := u8_and_nat m 2 (by omega) (by omega)
  rw [show ((2 : Nat) : Int) = 2 from rfl] at this
  rw [this]
  have h : ∀ k : Fin 256, (k.val &&& 2) = k.val / 2 % 2 * 2 := by decide
  have := h ⟨m, by omega⟩
  simp only at this
  rw [this]
  omega
theorem none_of {o : Option Nat} (h : o.isSome = false) : o = none := by cases o with | none => rfl | some l => cases h
theorem some_of {o : Option Nat} (h : o.isSome = true) : ∃ l, o = some l := by cases o with | none => cases h | some l => exact ⟨l, rfl⟩
def lkV : Option Nat → Int | none => 0 | some l => (l : Int)
theorem lkTup_eq (o : Option Nat) : lkTup o = .tuple #[.int .i64 (lkV o), .bool o.isSome] := by cases o <;> rfl
def nsV : Option Nat → Int | none => 0 | some l => (l : Int)
theorem nsTup_eq (o : Option Nat) : nsTup o = .tuple #[.int .u32 (nsV o), .bool o.isSome] := by cases o <;> rfl
set_option maxHeartbeats 8000000 in
set_option maxRecDepth 100000 in
theorem build_any (a0 a1 a2 a4 : Option Addr) (n l1 l2 l4 p0 p1 p2 p4 c : Nat) (ks fs ns ls : List Int) (h0 : ks.length = n) (h1 : fs.length = l1) (h2 : ns.length = l2) (h4 : ls.length = l4)
    (k8 : ∀ i, i < ks.length → 0 ≤ nth ks i ∧ nth ks i < 256) (f8 : ∀ i, 0 ≤ nth fs i ∧ nth fs i < 256) (n32 : ∀ i, 0 ≤ nth ns i ∧ nth ns i < 4294967296) (l32 : ∀ i, i < ls.length → 0 ≤ nth ls i) (hn : n ≤ 65536) (hc : c < 1048576)
    (w : World) (hin : B4 w a0 a1 a2 a4 ks fs ns ls) :
    Calls Tryd.prog 7 #[.slice a0 n p0, .slice a1 l1 p1, .slice a2 l2 p2, .int .u32 (c : Int), .slice a4 l4 p4, .bool true] w fun e w' => ∃ S T, e = .returned (.agg #[.slice (some ⟨T, 0, none⟩) 1 1]) ∧ w.heap.size ≤ S ∧ S < T ∧ Bt w' S n n ks fs ns ls c ∧ Blk w' T 57 #[.slice (some ⟨S, 0, none⟩) n n] ∧ Below w.heap.size w w' := by
  have H := Lib.hid (And.intro hin (And.intro k8 (And.intro f8 (And.intro n32 l32))))
  clear hin k8 f8 n32 l32
  have hz : (zeroValue 36).run Tryd.prog w = .ok (.agg #[.slice none 0 0]) w := by kernel_rfl
  obtain ⟨Y, hY⟩ : ∃ Y, w.heap.size = Y := ⟨_, rfl⟩
  go_enter Tryd.func7, Tryd.ntmps7
  go_upto_region 3 with (at_make; obtain ⟨i0, hi0, hz0, hz1, hz2⟩ := info_parts info67; refine wpList_make_full (w.alloc (.cells #[.slice none 0 0] 36)) rfl _ _ 57 rfl w.heap.size 67 i0 _ 10 Tryd.underlying57 hi0 hz0 hz1 .i64 .i64 n n n rfl rfl rfl rfl (by rw [hz2]; omega) (by unfold maxLen; omega) (by simp) ?_; intro w2 ho2 hg2; have HM := Lib.hid (And.intro ho2 hg2); clear ho2 hg2)
  obtain ⟨S, hS⟩ : ∃ S, Y + 1 = S := ⟨_, rfl⟩
  have H0 : Hid (Bw w w2 Y S ∧ Bt w2 S n 0 ks fs ns ls c) := Lib.hid (by
    have hg : w.grownBy w2 none := gb_trans (gb_alloc (gb_refl w none) _) HM.out.2
    have hy : Blk w2 Y 36 #[.slice none 0 0] := by
      have := (Blk.new w 36 #[.slice none 0 0]).gb HM.out.2 (by simp)
      rw [hY] at this
      exact this
    refine ⟨⟨by omega, (Below.refl _ _).grown hg (Nat.le_refl _) (fun k hk => by cases hk), hy⟩, ?_⟩
    rcases HM.out.1.2 with ⟨h, hm⟩ | ⟨g, cap, cur, hv, _, hh, _, _, hcs, htk⟩
    · cases h
    · simp only [Value.slice.injEq, Option.some.injEq, Addr.mk.injEq, and_true, true_and] at hv
      obtain ⟨rfl, rfl⟩ := hv
      have hh' : Blk w2 S 67 cur := by
        have e : (w.alloc (Obj.cells #[Value.slice none 0 0] 36)).heap.size = S := by simp; omega
        rw [e] at hh
        exact hh
      have hcur : cur = madeCells (Value.agg (zsym ByteArray.empty)).cells (n * 10) := by
        apply Array.ext'
        rw [← htk, List.take_of_length_le (by simp [hcs])]
      refine ⟨cur, hh', by omega, fun i hi => by omega, fun i _ hi => ?_⟩
      rw [hcur]
      exact made_raw _ n i hi)
  clear HM
  rw [hS]
  clear hS
  go_wp2_with fail
  go_loopg [15, 16, 17, 18, 19, 20, 21, 22] n (fun k a _ _ _ _ _ _ _ wx => ∃ i : Nat, a = .int .i64 (i : Int) ∧ i ≤ n ∧ n - i ≤ k ∧ Hid (Bw w wx Y S ∧ Bt wx S n i ks fs ns ls c))
  case atStart => exact ⟨0, rfl, by omega, by omega, H0⟩
  case round =>
    obtain ⟨i, rfl, hi, hk, HB⟩ := hrel
    obtain ⟨wz, rfl⟩ : ∃ wz : World, wz = wr := ⟨_, rfl⟩
    rcases (show n = i ∨ i < n by omega) with he | hlt
    · obtain rfl := he
      have hy := HB.out.1.y
      obtain ⟨T, hT⟩ : ∃ T, wz.heap.size = T := ⟨_, rfl⟩
      have hb1 := Blk.new wz 57 #[.slice (some ⟨S, 0, none⟩) n n]
      rw [hT] at hb1
      have hyl := hy.lt
      have hy1 : Blk (wz.alloc (.cells #[.slice (some ⟨S, 0, none⟩) n n] 57)) Y 36 #[.slice none 0 0] := hy.alloc _
      have y0 := hy1.cell 0
      have g0 := hy1.free 0
      have HF : Hid (Blk ((wz.alloc (.cells #[.slice (some ⟨S, 0, none⟩) n n] 57)).setCell ⟨Y, 0, none⟩ (.slice (some ⟨T, 0, none⟩) 1 1)) Y 36 #[.slice (some ⟨T, 0, none⟩) 1 1] ∧
          Blk ((wz.alloc (.cells #[.slice (some ⟨S, 0, none⟩) n n] 57)).setCell ⟨Y, 0, none⟩ (.slice (some ⟨T, 0, none⟩) 1 1)) T 57 #[.slice (some ⟨S, 0, none⟩) n n]) := Lib.hid ⟨hy1.set 0 _, blk_set_ne hb1 (by omega) 0 none _⟩
      obtain ⟨cs, q1, q2, q3, q4⟩ := HB.out.2.out
      have hSl := q1.lt
      have HG := Lib.hid (And.intro q1 (And.intro q2 (And.intro q3 (And.intro q4 (And.intro hyl (And.intro hT hSl))))))
      clear hy q1 q2 q3 q4 hb1 hy1
      go_wp2_with fail
      have hYl := HG.out.2.2.2.2.1
      have hTl := HG.out.2.2.2.2.2.1
      have hSl := HG.out.2.2.2.2.2.2
      have hSd := HB.out.1.s
      refine bodyPost_ret (v := .agg #[.slice (some ⟨T, 0, none⟩) 1 1]) (results_cell_row (d := _) Tryd.results7 _ _ Y 36 _ (0, 0) (by rfl) HF.out.1 Tryd.underlying36 rfl (by kernel_rfl)) rfl ?_
      refine ⟨S, T, rfl, by omega, by omega, ⟨cs, blk_set_ne (HG.out.1.alloc _) (by omega) _ _ _, HG.out.2.1, HG.out.2.2.1, HG.out.2.2.2.1⟩, HF.out.2, ?_⟩
      have hbw := HB.out.1.bl
      have hbs := hbw.size
      exact (hbw.alloc hbs _).setCell (p := ⟨Y, 0, none⟩) (show w.heap.size ≤ Y by omega) _
    · obtain ⟨b0, o0, rfl, lt0, hc0⟩ := H.out.1.i0.at (i := i) (by omega)
      have hk8 := H.out.2.1 i (by omega)
      have hf8 := H.out.2.2.1 i
      have hn32 := H.out.2.2.2.1 i
      obtain ⟨k, hkk⟩ : ∃ k, nth ks i = k := ⟨_, rfl⟩
      obtain ⟨f, hff⟩ : ∃ f, nth fs i = f := ⟨_, rfl⟩
      rw [hkk] at hc0 hk8
      rw [hff] at hf8
      have HV := Lib.hid (And.intro hkk (And.intro hff hc0))
      have HBS := Lib.hid lt0
      clear hkk hff hc0 lt0
      have hbi := HB.out.2.open_ hlt
      have HBI := Lib.hid hbi
      have hSl := hbi.lt
      clear hbi
      have d0 : decide ((i : Int) < 0) = false := by simp
      have HI2 := Lib.hid (fun (w : World) => inv_any w)
      go_upto_region 8 with (go_at_call 13; refine (HI2.out _).mono ?_; rintro e w3 ⟨rfl, hg3⟩; have hb3 := HBI.out.gb hg3 (by simp); have k2 := hb3.cell.1; have f2 := hb3.free (i * 10 + 2); have k3 : (w3.setCell ⟨S, i * 10 + 2, none⟩ (.int .u32 4294967295)).cell? ⟨S, i * 10 + 2 + 1, none⟩ = some (.int .u32 0) := (by obtain ⟨cs, z1, z2, z3, z4, z5⟩ := hb3.out; rw [(z1.set _ _).cell, Array.getElem?_setIfInBounds_ne (by omega)]; exact z5.l3); have f3 : (w3.setCell ⟨S, i * 10 + 2, none⟩ (.int .u32 4294967295)).frozen? ⟨S, i * 10 + 2 + 1, none⟩ = false := (by obtain ⟨cs, z1, z2, z3, z4, z5⟩ := hb3.out; exact (z1.set _ _).free _); have hl3 := hb3.lt; have HX3 := Lib.hid (And.intro (hb3.setL 4294967295 4294967295) (gb_set (gb_set (gb_none (r := some S) hg3) (i * 10 + 2) none (.int .u32 4294967295)) (i * 10 + 2 + 1) none (.int .u32 4294967295))); clear hb3 hg3)
      obtain ⟨w4, hw4⟩ : ∃ w4, (w3.setCell ⟨S, i * 10 + 2, none⟩ (.int .u32 4294967295)).setCell ⟨S, i * 10 + 2 + 1, none⟩ (.int .u32 4294967295) = w4 := ⟨_, rfl⟩
      rw [hw4] at HX3 ⊢
      clear hw4 k2 f2 k3 f3 hl3
      have hin4 : B4 w4 (some ⟨b0, o0, none⟩) a1 a2 a4 ks fs ns ls := H.out.1.kept (HB.out.1.step HX3.out.2).bl
      have HLK := Lib.hid (link_any a4 l4 p4 ls h4 H.out.2.2.2.2 i (by omega) w4 hin4.i4)
      obtain ⟨lo, hlo⟩ : ∃ lo, lnk ls i = lo := ⟨_, rfl⟩
      rw [hlo, lkTup_eq] at HLK
      have HLO := Lib.hid hlo
      clear hlo hin4
      obtain ⟨lv, hlv⟩ : ∃ lv, lkV lo = lv := ⟨_, rfl⟩
      obtain ⟨ok, hok⟩ : ∃ ok, lo.isSome = ok := ⟨_, rfl⟩
      rw [hlv, hok] at HLK
      have HLV := Lib.hid (And.intro hlv hok)
      clear hlv hok
      go_upto_if 45 with (go_at_call 14; refine HLK.out.mono ?_; rintro e w5 ⟨rfl, rfl⟩)
      go_cut [] (fun wc => Bi wc S n i ks fs ns ls c (lkOf lo).1 (lkOf lo).2 0 0 0 ∧ wz.grownBy wc (some S))
      case first =>
        cases ok
        · have e : lo = none := none_of HLV.out.2
          have HE := Lib.hid e
          clear e
          go_wp2_with fail
          go_meet
          rw [HE.out]
          exact ⟨HX3.out.1, HX3.out.2⟩
        · obtain ⟨l, hl⟩ : ∃ l, lo = some l := some_of HLV.out.2
          have hlv : lv = (l : Int) := by have h := HLV.out.1; rw [hl] at h; exact h.symm
          have hll : l < i := by
            have h := HLO.out
            rw [hl] at h
            by_cases e : i < ls.length
            · exact (lnk_lt h (H.out.2.2.2.2 i e)).1
            · unfold lnk at h; rw [if_neg (by omega)] at h; cases h
          subst hlv
          have HRF := Lib.hid (fun (w : World) => ref_any l (by omega) w)
          have HE := Lib.hid hl
          clear hl hll
          go_wp2_with (go_at_call 5; refine (HRF.out _).mono ?_; rintro e w6 ⟨rfl, hg6⟩; have hb3 := HX3.out.1.gb hg6 (by simp); have k2 := hb3.cell.1; have f2 := hb3.free (i * 10 + 2); have k3 : (w6.setCell ⟨S, i * 10 + 2, none⟩ (.int .u32 0)).cell? ⟨S, i * 10 + 2 + 1, none⟩ = some (.int .u32 4294967295) := (by obtain ⟨cs, z1, z2, z3, z4, z5⟩ := hb3.out; rw [(z1.set _ _).cell, Array.getElem?_setIfInBounds_ne (by omega)]; exact z5.l3); have f3 : (w6.setCell ⟨S, i * 10 + 2, none⟩ (.int .u32 0)).frozen? ⟨S, i * 10 + 2 + 1, none⟩ = false := (by obtain ⟨cs, z1, z2, z3, z4, z5⟩ := hb3.out; exact (z1.set _ _).free _); have hl3 := hb3.lt; have HX6 := Lib.hid (And.intro (hb3.setL 0 (l : Int)) (gb_set (gb_set (gb_trans HX3.out.2 (gb_none (r := some S) hg6)) (i * 10 + 2) none (.int .u32 0)) (i * 10 + 2 + 1) none (.int .u32 (l : Int)))); clear hb3 hg6)
          go_meet
          rw [HE.out]
          exact ⟨HX6.out.1, HX6.out.2⟩
      case rest =>
        have HC := Lib.hid hcut
        clear hcut
        obtain ⟨l2, hl2⟩ : ∃ l2, (lkOf lo).1 = l2 := ⟨_, rfl⟩
        obtain ⟨l3, hl3⟩ : ∃ l3, (lkOf lo).2 = l3 := ⟨_, rfl⟩
        rw [hl2, hl3] at HC
        have HL2 := Lib.hid (And.intro hl2 hl3)
        clear hl2 hl3
        have hwc := HB.out.1.step HC.out.2
        have hc0 : wc.cell? ⟨b0, o0 + i, none⟩ = some (.int .u8 k) := (hwc.bl.cell (p := ⟨b0, o0 + i, none⟩) HBS.out).trans HV.out.2.2
        have HFL := Lib.hid (byte_any a1 l1 p1 fs h1 i wc (H.out.1.kept hwc.bl).i1)
        rw [HV.out.2.1] at HFL
        clear hwc
        have hSl := HC.out.1.lt
        go_upto_if 61 with (go_at_call 15; refine HFL.out.mono ?_; rintro e w5 ⟨rfl, rfl⟩)
        have h3 : k.tmod 3 = k % 3 := Int.tmod_eq_emod_of_nonneg hk8.1
        go_cut [] (fun wd => Bi wd S n i ks fs ns ls c l2 l3 0 0 (kdOf k) ∧ wz.grownBy wd (some S))
        case first =>
          have k8 := HC.out.1.cell.2.2.2.2
          have f8 := HC.out.1.free (i * 10 + 8)
          rcases (show k % 3 = 0 ∨ k % 3 = 1 ∨ k % 3 = 2 by omega) with hk3 | hk3 | hk3
          · have e : kdOf k = 27 := if_pos hk3
            have HE := Lib.hid e
            clear e
            go_wp2_with fail
            go_meet
            rw [HE.out]
            exact ⟨HC.out.1.setK 27, gb_set HC.out.2 _ _ _⟩
          · have e : kdOf k = 18 := by unfold kdOf; rw [if_neg (by omega), if_pos hk3]
            have HE := Lib.hid e
            clear e
            go_wp2_with fail
            go_meet
            rw [HE.out]
            exact ⟨HC.out.1.setK 18, gb_set HC.out.2 _ _ _⟩
          · have e : kdOf k = 0 := by unfold kdOf; rw [if_neg (by omega), if_neg (by omega)]
            have HE := Lib.hid e
            clear e
            go_wp2_with fail
            go_meet
            rw [HE.out]
            exact ⟨HC.out.1.setK 0, gb_set HC.out.2 _ _ _⟩
        case rest =>
          have HD := Lib.hid hcut
          clear hcut HC h3
          obtain ⟨kv, hkv⟩ : ∃ kv, kdOf k = kv := ⟨_, rfl⟩
          rw [hkv] at HD
          have HKV := Lib.hid hkv
          clear hkv
          have b1 : bits BinOp.and IntKind.u8 f 1 = f % 2 := and1_u8 f hf8.1 hf8.2
          have b2 : bits BinOp.and IntKind.u8 f 2 = f / 2 % 2 * 2 := and2_u8 f hf8.1 hf8.2
          have hSl := HD.out.1.lt
          go_upto_if 76 with fail
          go_cut [] (fun we => Bi we S n i ks fs ns ls c l2 l3 0 (f % 2) kv ∧ wz.grownBy we (some S))
          case first =>
            have k7 := HD.out.1.cell.2.2.2.1
            have f7 := HD.out.1.free (i * 10 + 7)
            have hor : bits BinOp.or IntKind.u16 0 1 = 1 := by decide
            rcases (show f % 2 = 0 ∨ f % 2 = 1 by omega) with hf2 | hf2
            · have HE := Lib.hid hf2
              go_wp2_with fail
              go_meet
              rw [HE.out]
              exact HD.out
            · have HE := Lib.hid hf2
              go_wp2_with fail
              go_meet
              rw [HE.out]
              exact ⟨HD.out.1.setF 1, gb_set HD.out.2 _ _ _⟩
          case rest =>
            have HF := Lib.hid hcut
            clear hcut HD b1
            have hSl := HF.out.1.lt
            go_upto_if 95 with fail
            go_cut [] (fun wg => Bi wg S n i ks fs ns ls c l2 l3 0 (f % 4) kv ∧ wz.grownBy wg (some S))
            case first =>
              have k7 := HF.out.1.cell.2.2.2.1
              have f7 := HF.out.1.free (i * 10 + 7)
              rcases (show f / 2 % 2 = 0 ∨ f / 2 % 2 = 1 by omega) with hf4 | hf4
              · have e4 : f % 4 = f % 2 := by omega
                have HE := Lib.hid e4
                clear e4
                go_wp2_with fail
                go_meet
                rw [HE.out]
                exact HF.out
              · rcases (show f % 2 = 0 ∨ f % 2 = 1 by omega) with hf2 | hf2
                · have e4 : f % 4 = 2 := by omega
                  have HE := Lib.hid e4
                  rw [hf2] at k7
                  have hor : bits BinOp.or IntKind.u16 0 2 = 2 := by decide
                  clear e4
                  go_wp2_with fail
                  go_meet
                  rw [HE.out]
                  exact ⟨HF.out.1.setF 2, gb_set HF.out.2 _ _ _⟩
                · have e4 : f % 4 = 3 := by omega
                  have HE := Lib.hid e4
                  rw [hf2] at k7
                  have hor : bits BinOp.or IntKind.u16 1 2 = 3 := by decide
                  clear e4
                  go_wp2_with fail
                  go_meet
                  rw [HE.out]
                  exact ⟨HF.out.1.setF 3, gb_set HF.out.2 _ _ _⟩
            case rest =>
              have HG := Lib.hid hcut
              clear hcut HF b2
              have hwc := HB.out.1.step HG.out.2
              have HNS := Lib.hid (nest_any a2 _ p2 ns h2 i c hn32 (by omega) _ (H.out.1.kept hwc.bl).i2)
              obtain ⟨no, hno⟩ : ∃ no, nst ns c i = no := ⟨_, rfl⟩
              rw [hno, nsTup_eq] at HNS
              obtain ⟨sv, hsv⟩ : ∃ sv, nsV no = sv := ⟨_, rfl⟩
              obtain ⟨sk, hsk⟩ : ∃ sk, no.isSome = sk := ⟨_, rfl⟩
              rw [hsv, hsk] at HNS
              have HNO := Lib.hid (And.intro hno (And.intro hsv hsk))
              clear hno hsv hsk hwc
              have hSl := HG.out.1.lt
              have HCL : Hid (∀ wy, Bi wy S n i ks fs ns ls c l2 l3 (nxOf no) (f % 4) kv → wz.grownBy wy (some S) → Hid (Bw w wy Y S ∧ Bt wy S n (i + 1) ks fs ns ls c)) := Lib.hid (fun wy h hg => Lib.hid ⟨HB.out.1.step hg, Bi.close (by
                rw [HLO.out, HNO.out.1, HV.out.1, HV.out.2.1, HL2.out.1, HL2.out.2, HKV.out]
                exact h)⟩)
              cases sk
              · have e : no = none := none_of HNO.out.2.2
                have HE := Lib.hid e
                clear e
                go_wp2_with (go_at_call 16; refine HNS.out.mono ?_; rintro e w5 ⟨rfl, rfl⟩)
                go_roundg (gk - 1)
                case measure => omega
                case rel => exact ⟨i + 1, by go_num, by omega, by omega, HCL.out _ (by rw [HE.out]; exact HG.out.1) HG.out.2⟩
              · obtain ⟨sl, hsl⟩ := some_of HNO.out.2.2
                have hsv : sv = (sl : Int) := by have h := HNO.out.2.1; rw [hsl] at h; exact h.symm
                subst hsv
                have hsb : sl < 4294967296 := by
                  have h := HNO.out.1
                  unfold nst at h
                  split at h
                  · rw [hsl] at h; cases h
                  · rename_i hc0
                    rw [hsl] at h
                    have h := Option.some.inj h
                    have := Int.emod_lt_of_pos (nth ns i - 1) (show (0 : Int) < (c : Int) by omega)
                    have := Int.emod_nonneg (nth ns i - 1) (show (c : Int) ≠ 0 by omega)
                    omega
                have HMK := Lib.hid (fun (w : World) => mk_any (sl : Int) (by omega) (by omega) w)
                have HE := Lib.hid hsl
                clear hsl hsb
                go_wp2_with (first | (go_at_call 16; refine HNS.out.mono ?_; rintro e w5 ⟨rfl, rfl⟩) | (go_at_call 17; refine (HMK.out _).mono ?_; rintro e w7 ⟨rfl, hg7⟩; have hb7 := HG.out.1.gb hg7 (by simp); have k6 := hb7.cell.2.2.1; have f6 := hb7.free (i * 10 + 6); have hl7 := hb7.lt; have HX7 := Lib.hid (And.intro (hb7.setX (4294967295 - (sl : Int))) (gb_set (gb_trans HG.out.2 (gb_none (r := some S) hg7)) (i * 10 + 6) none (.int .u32 (4294967295 - (sl : Int))))); clear hg7 hb7))
                go_roundg (gk - 1)
                case measure => omega
                case rel => exact ⟨i + 1, by go_num, by omega, by omega, HCL.out _ (by rw [HE.out]; exact HX7.out.1) HX7.out.2⟩
end Go.Proofs.YtmpfgkiljfoicaaDoor
