/-
  markFileLiveForTreeShaking, markPartLiveForTreeShaking: a marking, depth first; what it leaves, its states. No statement of the seat is proved here.
-/
import Derived.Test.YtebecbidodnneaaSm
import Derived.Deep.CutBlock
namespace Go.Proofs.Ytebecbidodnneaa
open Go.RowKit
set_option linter.unusedVariables false
set_option linter.unusedSimpArgs false

theorem ta123 (p : Nat) (w : World) : (Instr.typeAssert (.iface 123 (.pointer (some ⟨p, 0, none⟩))) 39 123 false).run Try.prog w = .ok (.pointer (some ⟨p, 0, none⟩)) w := by kernel_rfl
theorem ta123t (p : Nat) (w : World) : (Instr.typeAssert (.iface 123 (.pointer (some ⟨p, 0, none⟩))) 39 123 true).run Try.prog w = .ok (.tuple #[.pointer (some ⟨p, 0, none⟩), .bool true]) w := by kernel_rfl
def DfsE (C O F : Nat) (P R T : Nat → Nat) (fs : List Wf) (ig : Bool) (x : Nat) (d : Nat → Bool) (w : World) (e : Ending) (w' : World) : Prop :=
  e = .returned (.tuple #[]) ∧ ∃ d', St w' C O F P R T fs ig d' ∧ Mkd (EE fs ig) Z0 d x d' ∧ Ext F T fs.length w w'
/-- what the walk may ask of fewer unmarked vertices -/
structure IHs (C O F : Nat) (P R T : Nat → Nat) (fs : List Wf) (ig : Bool) (k : Nat) : Prop where
  f : ∀ (a : Nat) (d : Nat → Bool) (w : World), a < fs.length → cnt d (fs.length * MM) ≤ k → St w C O F P R T fs ig d → Calls Try.prog 15 #[.pointer (some ⟨C, 0, none⟩), .int .u32 (a : Int)] w (DfsE C O F P R T fs ig (cf a) d w)
  p : ∀ (a b : Nat) (d : Nat → Bool) (w : World), a < fs.length → b < (wf fs a).ps.length → cnt d (fs.length * MM) ≤ k → St w C O F P R T fs ig d → Calls Try.prog 20 #[.pointer (some ⟨C, 0, none⟩), .int .u32 (a : Int), .int .u32 (b : Int)] w (DfsE C O F P R T fs ig (cp a b) d w)
/-- the marks behind the first neighbours -/
structure Lp (C O F : Nat) (P R T : Nat → Nat) (fs : List Wf) (ig : Bool) (cs : List Nat) (d1 : Nat → Bool) (w wx : World) (d' : Nat → Bool) : Prop where
  st : St wx C O F P R T fs ig d'
  mks : Mks (EE fs ig) Z0 d1 cs d'
  ex : Ext F T fs.length w wx
section
variable {C O F : Nat} {P R T : Nat → Nat} {fs : List Wf} {ig : Bool} {cs : List Nat} {d1 d' : Nat → Bool} {w wx wy : World}
theorem Mks.mono {E : Nat → Nat → Prop} {Z : Nat → Prop} {d d' : Nat → Bool} {cs : List Nat} (h : Mks E Z d cs d') : ∀ v, d v = true → d' v = true := fun v hv => (h v).2 (.inl hv)
theorem Lp.gb (h : Lp C O F P R T fs ig cs d1 w wx d') (hg : wx.grownBy wy none) : Lp C O F P R T fs ig cs d1 w wy d' := ⟨h.st.gb hg, h.mks, h.ex.trans (Ext.of_gb hg)⟩
theorem Lp.call {x : Nat} {d2 : Nat → Bool} (h : Lp C O F P R T fs ig cs d1 w wx d') (hs : St wy C O F P R T fs ig d2) (hm : Mkd (EE fs ig) Z0 d' x d2) (he : Ext F T fs.length wx wy) : Lp C O F P R T fs ig (cs ++ [x]) d1 w wy d2 := ⟨hs, h.mks.snoc hm, h.ex.trans he⟩
theorem cnt_of {d : Nat → Bool} {x k N : Nat} (hd : d x = false) (hx : x < N) (hk : cnt d N ≤ k + 1) (hm : ∀ v, (d v || v == x) = true → d' v = true) : cnt d' N ≤ k := by
  have h1 := cnt_mono (d := fun v => d v || v == x) (d' := d') hm N
  have h2 := cnt_mark hd N hx
  omega
/-- ahead of the record at k of part j (its copy at block q) -/
structure Ip (C O F : Nat) (P R T : Nat → Nat) (fs : List Wf) (ig : Bool) (a j q ib db : Nat) (d1 : Nat → Bool) (lv : Bool) (k : Nat) (cv : Bool) (w wx : World) : Prop where
  lp : ∃ d', Lp C O F P R T fs ig (nbP fs ig (wf fs a) a j ++ nbK fs ig (wf fs a).rs (pt (wf fs a).ps j).rz k) d1 w wx d'
  qq : Blk wx q 74 (rowP ib db (pt (wf fs a).ps j) lv).toArray
  dr : DRow wx ib db (pt (wf fs a).ps j)
  qf : q ≠ F
  qt : ∀ v, v < fs.length → q ≠ T v
  cq : cv = ((pt (wf fs a).ps j).cb && !kpK fs ig (wf fs a).rs (pt (wf fs a).ps j).rz k)
variable {a j q ib db k : Nat} {lv cv : Bool}
theorem Ip.gb (h : Ip C O F P R T fs ig a j q ib db d1 lv k cv w wx) (hg : wx.grownBy wy none) : Ip C O F P R T fs ig a j q ib db d1 lv k cv w wy := by
  obtain ⟨d', hl⟩ := h.lp
  exact ⟨⟨d', hl.gb hg⟩, h.qq.gb hg (by simp), h.dr.gb hg (by simp) (by simp), h.qf, h.qt, h.cq⟩
theorem Ip.skip (h : Ip C O F P R T fs ig a j q ib db d1 lv k cv w wx) {r : Rc} (hr : rc (wf fs a).rs (nth (pt (wf fs a).ps j).rz k).toNat = r) (h1 : recN fs ig r = []) (h2 : keepR fs ig r = false) : Ip C O F P R T fs ig a j q ib db d1 lv (k + 1) cv w wx := by
  obtain ⟨d', hl⟩ := h.lp
  refine ⟨⟨d', ?_⟩, h.qq, h.dr, h.qf, h.qt, ?_⟩
  · unfold nbK; rw [hr, h1, List.append_nil]; exact hl
  · unfold kpK; rw [hr, h2, Bool.or_false]; exact h.cq
theorem Ip.keep (h : Ip C O F P R T fs ig a j q ib db d1 lv k cv w wx) {r : Rc} (hr : rc (wf fs a).rs (nth (pt (wf fs a).ps j).rz k).toNat = r) (h1 : recN fs ig r = []) (h2 : keepR fs ig r = true) : Ip C O F P R T fs ig a j q ib db d1 lv (k + 1) false w wx := by
  obtain ⟨d', hl⟩ := h.lp
  refine ⟨⟨d', ?_⟩, h.qq, h.dr, h.qf, h.qt, ?_⟩
  · unfold nbK; rw [hr, h1, List.append_nil]; exact hl
  · unfold kpK; rw [hr, h2, Bool.or_true]; simp
theorem Ip.call (h : Ip C O F P R T fs ig a j q ib db d1 lv k cv w wx) {r : Rc} {x : Nat} (hr : rc (wf fs a).rs (nth (pt (wf fs a).ps j).rz k).toNat = r) (h1 : recN fs ig r = [x]) (h2 : keepR fs ig r = true)
    (d' d2 : Nat → Bool) (hl : Lp C O F P R T fs ig (nbP fs ig (wf fs a) a j ++ nbK fs ig (wf fs a).rs (pt (wf fs a).ps j).rz k) d1 w wx d') (hs : St wy C O F P R T fs ig d2) (hm : Mkd (EE fs ig) Z0 d' x d2) (he : Ext F T fs.length wx wy) :
    Ip C O F P R T fs ig a j q ib db d1 lv (k + 1) false w wy := by
  refine ⟨⟨d2, ?_⟩, (he.block q h.qq.lt h.qf h.qt).trans h.qq, h.dr.ext hl.st he, h.qf, h.qt, ?_⟩
  · unfold nbK; rw [hr, h1, ← List.append_assoc]; exact hl.call hs hm he
  · unfold kpK; rw [hr, h2, Bool.or_true]; simp
/-- a part done, not kept -/
theorem Ip.off (h : Ip C O F P R T fs ig a j q ib db d1 lv (pt (wf fs a).ps j).rz.length true w wx) : ∃ d', Lp C O F P R T fs ig (nbP fs ig (wf fs a) a (j + 1)) d1 w wx d' := by
  obtain ⟨d', hl⟩ := h.lp
  refine ⟨d', ?_⟩
  have hk : kpP fs ig (wf fs a) j = false := by unfold kpP; rw [← h.cq]; rfl
  unfold nbP
  rw [hk, if_neg (by simp), List.append_nil]
  exact hl
/-- a part done, kept -/
theorem Ip.on (h : Ip C O F P R T fs ig a j q ib db d1 lv (pt (wf fs a).ps j).rz.length false w wx) (d' d2 : Nat → Bool) (hl : Lp C O F P R T fs ig (nbP fs ig (wf fs a) a j ++ nbK fs ig (wf fs a).rs (pt (wf fs a).ps j).rz (pt (wf fs a).ps j).rz.length) d1 w wx d')
    (hs : St wy C O F P R T fs ig d2) (hm : Mkd (EE fs ig) Z0 d' (cp a j) d2) (he : Ext F T fs.length wx wy) : ∃ d', Lp C O F P R T fs ig (nbP fs ig (wf fs a) a (j + 1)) d1 w wy d' := by
  refine ⟨d2, ?_⟩
  have hk : kpP fs ig (wf fs a) j = true := by unfold kpP; rw [← h.cq]; rfl
  unfold nbP
  rw [hk, if_pos rfl]
  exact hl.call hs hm he
end
set_option maxHeartbeats 4000000 in
set_option maxRecDepth 100000 in
theorem f_done (C O F : Nat) (P R T : Nat → Nat) (fs : List Wf) (ig : Bool) (hok : OkE fs) (a : Nat) (ha : a < fs.length) (d : Nat → Bool) (hd : d (cf a) = true) (w : World) (hs : St w C O F P R T fs ig d) :
    Calls Try.prog 15 #[.pointer (some ⟨C, 0, none⟩), .int .u32 (a : Int)] w (DfsE C O F P R T fs ig (cf a) d w) := by
  obtain ⟨c1, l1, c2, l2, c3, c4, _⟩ := hs.fcell ha
  rw [hd] at c4
  have HS := Lib.hid (And.intro hs (And.intro hd ha))
  obtain ⟨n, hn⟩ : ∃ n, fs.length = n := ⟨_, rfl⟩
  rw [hn] at c1
  have ha' : a < n := by omega
  have h4 : a < 4294967296 := by have := hok.n; omega
  clear hs hd hok ha hn
  go_enter Try.func15, Try.ntmps15
  go_wp2_with fail
  exact bodyPost_ret (results_none rfl _ _ _) rfl ⟨rfl, d, HS.out.1, Mkd.done HS.out.2.1, Ext.refl _ _ _ _⟩
set_option maxHeartbeats 4000000 in
set_option maxRecDepth 100000 in
theorem p_done (C O F : Nat) (P R T : Nat → Nat) (fs : List Wf) (ig : Bool) (hok : OkE fs) (a b : Nat) (ha : a < fs.length) (hb : b < (wf fs a).ps.length) (d : Nat → Bool) (hd : d (cp a b) = true) (w : World) (hs : St w C O F P R T fs ig d) :
    Calls Try.prog 20 #[.pointer (some ⟨C, 0, none⟩), .int .u32 (a : Int), .int .u32 (b : Int)] w (DfsE C O F P R T fs ig (cp a b) d w) := by
  obtain ⟨c1, l1, c2, l2, _⟩ := hs.fcell ha
  obtain ⟨p1, _, _, lp⟩ := hs.pcell ha
  obtain ⟨ib, db, ht, _, lt, _⟩ := hs.tcell ha hb
  have t10 : w.cell? ⟨T a, b * 11 + 10, none⟩ = some (.bool (d (cp a b))) := ht 10 (by omega)
  rw [hd] at t10
  have HS := Lib.hid (And.intro hs hd)
  obtain ⟨n, hn⟩ : ∃ n, fs.length = n := ⟨_, rfl⟩
  rw [hn] at c1
  have ha' : a < n := by omega
  obtain ⟨m, hm⟩ : ∃ m, (wf fs a).ps.length = m := ⟨_, rfl⟩
  rw [hm] at p1
  have hb' : b < m := by omega
  have hta := ta123 (P a) w
  have h4 : a < 4294967296 := by have := hok.n; omega
  have h5 : b < 4294967296 := by have := hok.pl a ha; omega
  clear hs hd hok ha hb hn hm ht
  go_enter Try.func20, Try.ntmps20
  go_wp2_with fail
  exact bodyPost_ret (results_none rfl _ _ _) rfl ⟨rfl, d, HS.out.1, Mkd.done HS.out.2, Ext.refl _ _ _ _⟩
end Go.Proofs.Ytebecbidodnneaa
