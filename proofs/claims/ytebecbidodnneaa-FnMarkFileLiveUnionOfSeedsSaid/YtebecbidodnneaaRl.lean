/-
  lkB1RunLive: one marking, or two, over a graph just laid. No statement of the seat is proved here.
-/
import Derived.Test.YtebecbidodnneaaBw
import Derived.Test.YtebecbidodnneaaFs
namespace Go.Proofs.Ytebecbidodnneaa
open Go.RowKit
set_option linter.unusedVariables false
set_option linter.unusedSimpArgs false

noncomputable def opC (g : Bool) : Array Value := cellsOf ((Instr.build 187 #[(70, .bool true), (69, .bool g)]).run Try.prog default)
theorem build187 (g : Bool) (w : World) : (Instr.build 187 #[(70, .bool true), (69, .bool g)]).run Try.prog w = .ok (.agg (opC g)) w := by kernel_rfl
theorem op93 (g : Bool) : (opC g)[93]? = some (.bool g) := by kernel_rfl
theorem op94 (g : Bool) : (opC g)[94]? = some (.bool true) := by kernel_rfl
/-- what the law reads of a graph -/
structure Rd (w : World) (Q F : Nat) (P T : Nat → Nat) (fs : List Wf) (d : Nat → Bool) : Prop where
  q : ∃ qs, Blk w Q 123 qs ∧ ∀ v, v < fs.length → qs[v]? = some (.pointer (some ⟨P v, 0, none⟩))
  f : ∃ cs, Blk w F 60 cs ∧ ∀ v, v < fs.length → cs[v * 24 + 23]? = some (.bool (d (cf v)))
  p : ∀ v, v < fs.length → ∃ cs, Blk w (P v) 122 cs ∧ cs[20]? = some (.slice (some ⟨T v, 0, none⟩) (wf fs v).ps.length (wf fs v).ps.length)
  t : ∀ v, v < fs.length → ∃ cs, Blk w (T v) 74 cs ∧ ∀ j, j < (wf fs v).ps.length → cs[j * 11 + 10]? = some (.bool (d (cp v j)))
theorem Rd.below {w w' : World} {Q F : Nat} {P T : Nat → Nat} {fs : List Wf} {d : Nat → Bool} (h : Rd w Q F P T fs d) (hb : Below w.heap.size w w') : Rd w' Q F P T fs d := by
  obtain ⟨qs, q1, q2⟩ := h.q
  obtain ⟨cs, f1, f2⟩ := h.f
  refine ⟨⟨qs, q1.kept hb, q2⟩, ⟨cs, f1.kept hb, f2⟩, fun v hv => ?_, fun v hv => ?_⟩
  · obtain ⟨ds, k1, k2⟩ := h.p v hv
    exact ⟨ds, k1.kept hb, k2⟩
  · obtain ⟨ds, k1, k2⟩ := h.t v hv
    exact ⟨ds, k1.kept hb, k2⟩
theorem St.rd {w w0 : World} {Q C O F : Nat} {P R T : Nat → Nat} {fs : List Wf} {ig : Bool} {d0 d : Nat → Bool} (h : St w C O F P R T fs ig d) (h0 : St w0 C O F P R T fs ig d0) (he : Ext F T fs.length w0 w) (hq : ∃ qs, Blk w0 Q 123 qs ∧ ∀ v, v < fs.length → qs[v]? = some (.pointer (some ⟨P v, 0, none⟩))) : Rd w Q F P T fs d := by
  obtain ⟨qs, q1, q2⟩ := hq
  obtain ⟨f1, f2, _, f4⟩ := h.f
  obtain ⟨g1, g2, _⟩ := h0.f
  refine ⟨⟨qs, (he.block Q q1.lt (blk_ne q1 g2 (by decide)) (fun v hv => ?_)).trans q1, q2⟩, ⟨f1, f2, fun v hv => (f4 v hv).2.2⟩, fun v hv => ?_, fun v hv => ?_⟩
  · obtain ⟨t1, t2, _⟩ := h0.t v hv
    exact blk_ne q1 t2 (by decide)
  · obtain ⟨cs, k1, k2, _⟩ := h.p v hv
    exact ⟨cs, k1, k2⟩
  · obtain ⟨cs, k1, k2, k3⟩ := h.t v hv
    refine ⟨cs, k1, fun j hj => ?_⟩
    obtain ⟨ib, db, e, _⟩ := k3 j hj
    exact e 10 (by omega)
theorem Bq.st {w wx wy : World} {Q F C O : Nat} {P R T : Nat → Nat} {fs : List Wf} {ig : Bool} (h : Bq w wx Q F fs.length fs.length P R T fs) (hg : wx.grownBy wy none) (hc : ∃ cs, Blk wy C 212 cs ∧ cs[0]? = some (.pointer (some ⟨O, 0, none⟩)) ∧ cs[10]? = some (.slice (some ⟨F, 0, none⟩) fs.length fs.length))
    (ho : Blk wy O 187 (opC ig)) : St wy C O F P R T fs ig dN := by
  have hb := h.gb hg
  obtain ⟨cs, k1, k2, k3⟩ := hb.f
  exact ⟨hc, ⟨_, ho, op93 _, op94 _⟩, ⟨cs, k1, k2, k3⟩, fun v hv => (hb.o v hv).pp, fun v hv => (hb.o v hv).rr, fun v hv => (hb.o v hv).tt, fun u v hu hv => hb.inj u v hu hv⟩
theorem zz_any (C O F : Nat) (P R T : Nat → Nat) (fs : List Wf) (ig : Bool) (hok : OkE fs) (a : Nat) (d : Nat → Bool) (w : World) (ha : a < fs.length) (hs : St w C O F P R T fs ig d) :
    Calls Try.prog 14 #[.pointer (some ⟨C, 0, none⟩), .int .u32 (a : Int)] w (DfsE C O F P R T fs ig (cf a) d w) := by
  have H := Lib.hid (dfs_any C O F P R T fs ig hok a d w ha hs)
  clear hs hok
  go_enter Try.func14, Try.ntmps14
  go_wp2_with (go_at_call 15; refine H.out.mono ?_; rintro e w1 ⟨rfl, hd⟩; have HD := Lib.hid hd; clear hd)
  go_end0
  exact ⟨rfl, HD.out⟩
def RlE (Q F : Nat) (P T : Nat → Nat) (fs : List Wf) (M : (Nat → Bool) → Prop) (w : World) (e : Ending) (w' : World) : Prop := e = .returned (.tuple #[]) ∧ ∃ d, Rd w' Q F P T fs d ∧ M d ∧ Ext F T fs.length w w'
set_option maxHeartbeats 4000000 in
set_option maxRecDepth 100000 in
theorem rl_one (Q F n : Nat) (P R T : Nat → Nat) (fs : List Wf) (hn : fs.length = n) (hok : OkE fs) (ig : Bool) (a : Nat) (ha : a < fs.length) (w0 w : World) (h : Bq w0 w Q F n n P R T fs) :
    Calls Try.prog 9 #[.slice (some ⟨F, 0, none⟩) n n, .bool ig, .int .u32 (a : Int), .int .u32 0, .bool false] w (RlE Q F P T fs (Mkd (EE fs ig) Z0 dN (cf a)) w) := by
  have HN := Lib.hid (And.intro hn (And.intro hok (And.intro ha h)))
  have hO := Blk.new w 187 (opC ig)
  have H1 : Hid (Blk (w.alloc (.cells (opC ig) 187)) w.heap.size 187 (opC ig) ∧ w.grownBy (w.alloc (.cells (opC ig) 187)) none) := Lib.hid ⟨hO, gb_alloc (gb_refl _ _) _⟩
  clear hn hok ha h hO
  obtain ⟨O, hOe⟩ : ∃ O, w.heap.size = O := ⟨_, rfl⟩
  rw [hOe] at H1
  have HNL := Lib.hid (fun w => nl_any O (some ⟨F, 0, none⟩) n w)
  go_enter Try.func9, Try.ntmps9
  go_upto_region 1 with (first
    | (refine wpList_build rfl 187 _ rfl [(70, .bool true), (69, .bool ig)] rfl (opC ig) (build187 ig) ?_)
    | (go_at_call 13; (try rw [hOe]); refine (HNL.out _).mono ?_; rintro e w2 ⟨C, rfl, hc, hg2⟩; have H2 := Lib.hid (And.intro hc hg2); clear hc hg2))
  have HS : Hid (St w2 C O F P R T fs ig dN ∧ w.grownBy w2 none) := Lib.hid (by
    have hb := HN.out.2.2.2
    have hnn := HN.out.1
    rw [← hnn] at hb
    have hc := H2.out.1
    rw [← hnn] at hc
    have hg := gb_trans H1.out.2 H2.out.2
    exact ⟨hb.st hg hc (H1.out.1.gb H2.out.2 (by simp)), hg⟩)
  have HC := Lib.hid (zz_any C O F P R T fs ig HN.out.2.1 a dN w2 HN.out.2.2.1 HS.out.1)
  clear hOe
  go_wp2_with (go_at_call 14; refine HC.out.mono ?_; rintro e w3 ⟨rfl, d, k1, k2, k3⟩; have H3 := Lib.hid (And.intro k1 (And.intro k2 k3)); clear k1 k2 k3)
  go_end0
  refine ⟨rfl, d, H3.out.1.rd HS.out.1 H3.out.2.2 ?_, H3.out.2.1, (Ext.of_gb HS.out.2).trans H3.out.2.2⟩
  have hb := HN.out.2.2.2.gb HS.out.2
  obtain ⟨qs, q1, _, q3⟩ := hb.q
  exact ⟨qs, q1, fun v hv => q3 v (by rw [← HN.out.1]; exact hv)⟩
set_option maxHeartbeats 4000000 in
set_option maxRecDepth 100000 in
theorem rl_two (Q F n : Nat) (P R T : Nat → Nat) (fs : List Wf) (hn : fs.length = n) (hok : OkE fs) (ig : Bool) (a b : Nat) (ha : a < fs.length) (hb : b < fs.length) (w0 w : World) (h : Bq w0 w Q F n n P R T fs) :
    Calls Try.prog 9 #[.slice (some ⟨F, 0, none⟩) n n, .bool ig, .int .u32 (a : Int), .int .u32 (b : Int), .bool true] w (RlE Q F P T fs (fun d => ∃ d1, Mkd (EE fs ig) Z0 dN (cf a) d1 ∧ Mkd (EE fs ig) Z0 d1 (cf b) d) w) := by
  have HN := Lib.hid (And.intro hn (And.intro hok (And.intro ha (And.intro h hb))))
  have hO := Blk.new w 187 (opC ig)
  have H1 : Hid (Blk (w.alloc (.cells (opC ig) 187)) w.heap.size 187 (opC ig) ∧ w.grownBy (w.alloc (.cells (opC ig) 187)) none) := Lib.hid ⟨hO, gb_alloc (gb_refl _ _) _⟩
  clear hn hok ha h hO hb
  obtain ⟨O, hOe⟩ : ∃ O, w.heap.size = O := ⟨_, rfl⟩
  rw [hOe] at H1
  have HNL := Lib.hid (fun w => nl_any O (some ⟨F, 0, none⟩) n w)
  go_enter Try.func9, Try.ntmps9
  go_upto_region 1 with (first
    | (refine wpList_build rfl 187 _ rfl [(70, .bool true), (69, .bool ig)] rfl (opC ig) (build187 ig) ?_)
    | (go_at_call 13; (try rw [hOe]); refine (HNL.out _).mono ?_; rintro e w2 ⟨C, rfl, hc, hg2⟩; have H2 := Lib.hid (And.intro hc hg2); clear hc hg2))
  have HS : Hid (St w2 C O F P R T fs ig dN ∧ w.grownBy w2 none) := Lib.hid (by
    have hb := HN.out.2.2.2.1
    have hnn := HN.out.1
    rw [← hnn] at hb
    have hc := H2.out.1
    rw [← hnn] at hc
    have hg := gb_trans H1.out.2 H2.out.2
    exact ⟨hb.st hg hc (H1.out.1.gb H2.out.2 (by simp)), hg⟩)
  have HC := Lib.hid (zz_any C O F P R T fs ig HN.out.2.1 a dN w2 HN.out.2.2.1 HS.out.1)
  clear hOe
  go_upto_region 2 with (go_at_call 14; refine HC.out.mono ?_; rintro e w3 ⟨rfl, d, k1, k2, k3⟩; have H3 := Lib.hid (And.intro k1 (And.intro k2 k3)); clear k1 k2 k3)
  have HC2 := Lib.hid (zz_any C O F P R T fs ig HN.out.2.1 b d w3 HN.out.2.2.2.2 H3.out.1)
  go_wp2_with (go_at_call 14; refine HC2.out.mono ?_; rintro e w4 ⟨rfl, d2, k1, k2, k3⟩; have H4 := Lib.hid (And.intro k1 (And.intro k2 k3)); clear k1 k2 k3)
  go_end0
  refine ⟨rfl, d2, H4.out.1.rd HS.out.1 (H3.out.2.2.trans H4.out.2.2) ?_, ⟨d, H3.out.2.1, H4.out.2.1⟩, ((Ext.of_gb HS.out.2).trans H3.out.2.2).trans H4.out.2.2⟩
  have hb := HN.out.2.2.2.1.gb HS.out.2
  obtain ⟨qs, q1, _, q3⟩ := hb.q
  exact ⟨qs, q1, fun v hv => q3 v (by rw [← HN.out.1]; exact hv)⟩
end Go.Proofs.Ytebecbidodnneaa
