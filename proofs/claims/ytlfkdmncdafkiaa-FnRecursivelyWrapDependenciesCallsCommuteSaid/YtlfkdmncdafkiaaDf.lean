/-
  recursivelyWrapDependencies: a marking, depth first, walked. No statement of the seat is proved here.
-/
import Derived.Test.YtlfkdmncdafkiaaSm
import Derived.Test.YtlfkdmncdafkiaaDn
import Derived.Test.YtlfkdmncdafkiaaDp
import Derived.Deep.CutBlock
namespace Go.Proofs.Ytlfkdmncdafkiaa
open Go.RowKit
set_option linter.unusedVariables false
set_option linter.unusedSimpArgs false

/-- one file of the law -/
structure Wf where
  ek : Int
  wr : Int
  dw : Bool
  ia : Option Addr
  ic : Nat
  iz : List Int
instance : Inhabited Wf := ⟨⟨0, 0, false, none, 0, []⟩⟩
def wf (fs : List Wf) (i : Nat) : Wf := fs.getD i default
/-- the neighbours, among the first imports -/
def csf (zs : List Int) : List Nat := (zs.filter (fun t => decide (0 ≤ t))).map Int.toNat
theorem csf_snoc (zs : List Int) (j : Nat) (h : j < zs.length) : csf (zs.take (j + 1)) = if 0 ≤ nth zs j then csf (zs.take j) ++ [(nth zs j).toNat] else csf (zs.take j) := by
  unfold csf
  rw [List.take_succ_eq_append_getElem h, List.filter_append, List.map_append, nth_get zs j h]
  by_cases h0 : 0 ≤ zs[j]
  · rw [if_pos h0]; simp [h0]
  · rw [if_neg h0]; simp [h0]
def EE (fs : List Wf) (a c : Nat) : Prop := c ∈ csf (wf fs a).iz
def Z0 (a : Nat) : Prop := a = 0
def fW (fs : List Wf) (v : Nat) (k : Int) : Int := if k = 0 then (if (wf fs v).ek = 1 then 1 else 2) else k
/-- the flipped index of an import -/
def fl (t : Int) : Int := if 0 ≤ t then 4294967295 - t else 0
def rowL (x : Int) : List Value := [.pointer none, .pointer none, .string ⟨#[]⟩, .string ⟨#[]⟩, .string ⟨#[]⟩, .string ⟨#[]⟩, .int .u8 0, .int .i32 0, .int .i32 0, .int .i32 0, .int .u32 x, .int .u32 0, .int .u16 0, .int .u8 0, .int .u8 0]
/-- the graph in memory: F the files, C the context, P v the repr of file v, R v its records; d the done flags, W the wraps -/
structure St (w : World) (C F : Nat) (P R : Nat → Nat) (fs : List Wf) (d : Nat → Bool) (W : Nat → Int) : Prop where
  c : ∃ cs, Blk w C 188 cs ∧ cs[10]? = some (.slice (some ⟨F, 0, none⟩) fs.length fs.length)
  f : ∃ cs, Blk w F 121 cs ∧ ∀ v, v < fs.length → cs[v * 24 + 2]? = some (.iface 82 (.pointer (some ⟨P v, 0, none⟩)))
  r : ∀ v, v < fs.length → ∃ cs, Blk w (R v) 99 cs ∧ ∀ j, j < (wf fs v).iz.length → ∀ i, i < 15 → cs[j * 15 + i]? = (rowL (fl (nth (wf fs v).iz j)))[i]?
  p : ∀ v, v < fs.length → ∃ cs, Blk w (P v) 81 cs ∧ cs.size = 64 ∧ cs[62]? = some (.int .u8 (wf fs v).ek) ∧ cs[11]? = some (.int .u8 (W v)) ∧ cs[15]? = some (.bool (d v)) ∧ cs[35]? = some (.slice (some ⟨R v, 0, none⟩) (wf fs v).iz.length (wf fs v).iz.length)
  inj : ∀ u v, u < fs.length → v < fs.length → P u = P v → u = v
theorem blk_ne {w : World} {a b : Nat} {t u : TypeId} {cs ds : Array Value} (h : Blk w a t cs) (k : Blk w b u ds) (hne : t ≠ u) : a ≠ b := fun e => by
  unfold Blk at h k
  rw [e, k] at h
  have h3 := Option.some.inj h
  rw [Obj.cells.injEq] at h3
  exact hne h3.2.1.symm
/-- but the blocks P v, all is as it was -/
structure Ext (P : Nat → Nat) (n : Nat) (w w' : World) : Prop where
  os : w'.os = w.os
  tape : w'.tape = w.tape
  output : w'.output = w.output
  size : w.heap.size ≤ w'.heap.size
  block : ∀ i, i < w.heap.size → (∀ v, v < n → i ≠ P v) → w'.heap[i]? = w.heap[i]?
section
variable {w w' : World} {C F : Nat} {P R : Nat → Nat} {fs : List Wf} {d : Nat → Bool} {W : Nat → Int} {n : Nat}
theorem Ext.refl (P : Nat → Nat) (n : Nat) (w : World) : Ext P n w w := ⟨rfl, rfl, rfl, Nat.le_refl _, fun _ _ _ => rfl⟩
theorem Ext.trans {a b c : World} (h : Ext P n a b) (k : Ext P n b c) : Ext P n a c :=
  ⟨k.os.trans h.os, k.tape.trans h.tape, k.output.trans h.output, Nat.le_trans h.size k.size, fun i hi hne => (k.block i (Nat.lt_of_lt_of_le hi h.size) hne).trans (h.block i hi hne)⟩
theorem Ext.of_gb (h : w.grownBy w' none) : Ext P n w w' := ⟨h.os, h.tape, h.output, h.size, fun i hi _ => h.block i hi (by simp)⟩
theorem Ext.set {v : Nat} (hv : v < n) (i : Nat) (s : Option Nat) (x : Value) : Ext P n w (w.setCell ⟨P v, i, s⟩ x) :=
  ⟨rfl, rfl, rfl, by simp [World.setCell], fun k _ hne => Below.heap_setCell _ _ _ _ (hne v hv)⟩
theorem St.gb (h : St w C F P R fs d W) (hg : w.grownBy w' none) : St w' C F P R fs d W := by
  obtain ⟨cs, h1, h2⟩ := h.c
  obtain ⟨gs, k1, k2⟩ := h.f
  refine ⟨⟨cs, h1.gb hg (by simp), h2⟩, ⟨gs, k1.gb hg (by simp), k2⟩, fun v hv => ?_, fun v hv => ?_, h.inj⟩
  · obtain ⟨ds, q1, q2⟩ := h.r v hv
    exact ⟨ds, q1.gb hg (by simp), q2⟩
  · obtain ⟨ds, q1, q2⟩ := h.p v hv
    exact ⟨ds, q1.gb hg (by simp), q2⟩
theorem St.set (h : St w C F P R fs d W) {a : Nat} (ha : a < fs.length) (i : Nat) (x : Value) {d' : Nat → Bool} {W' : Nat → Int}
    (hp : ∀ cs : Array Value, cs.size = 64 → cs[62]? = some (.int .u8 (wf fs a).ek) → cs[11]? = some (.int .u8 (W a)) → cs[15]? = some (.bool (d a)) → cs[35]? = some (.slice (some ⟨R a, 0, none⟩) (wf fs a).iz.length (wf fs a).iz.length) →
      (cs.setIfInBounds i x)[62]? = some (.int .u8 (wf fs a).ek) ∧ (cs.setIfInBounds i x)[11]? = some (.int .u8 (W' a)) ∧ (cs.setIfInBounds i x)[15]? = some (.bool (d' a)) ∧ (cs.setIfInBounds i x)[35]? = some (.slice (some ⟨R a, 0, none⟩) (wf fs a).iz.length (wf fs a).iz.length))
    (hd : ∀ v, v ≠ a → d' v = d v) (hW : ∀ v, v ≠ a → W' v = W v) : St (w.setCell ⟨P a, i, none⟩ x) C F P R fs d' W' := by
  obtain ⟨ca, a1, a2, a3⟩ := h.p a ha
  have hg : w.grownBy (w.setCell ⟨P a, i, none⟩ x) (some (P a)) := gb_set (gb_refl _ _) _ _ _
  obtain ⟨cs, h1, h2⟩ := h.c
  obtain ⟨gs, k1, k2⟩ := h.f
  refine ⟨⟨cs, h1.gb hg (fun e => blk_ne h1 a1 (by decide) (Option.some.inj e)), h2⟩, ⟨gs, k1.gb hg (fun e => blk_ne k1 a1 (by decide) (Option.some.inj e)), k2⟩, fun v hv => ?_, fun v hv => ?_, h.inj⟩
  · obtain ⟨ds, q1, q2⟩ := h.r v hv
    exact ⟨ds, q1.gb hg (fun e => blk_ne q1 a1 (by decide) (Option.some.inj e)), q2⟩
  · by_cases e : v = a
    · subst e
      obtain ⟨b1, b2, b3, b4⟩ := hp ca a2 a3.1 a3.2.1 a3.2.2.1 a3.2.2.2
      exact ⟨_, a1.set i x, by simp [a2], b1, b2, b3, b4⟩
    · obtain ⟨ds, q1, q2, q3, q4, q5, q6⟩ := h.p v hv
      exact ⟨ds, q1.gb hg (fun e2 => e (h.inj v a hv ha (Option.some.inj e2))), q2, q3, by rw [hW v e]; exact q4, by rw [hd v e]; exact q5, q6⟩
theorem St.mark (h : St w C F P R fs d W) {a : Nat} (ha : a < fs.length) : St (w.setCell ⟨P a, 15, none⟩ (.bool true)) C F P R fs (fun v => d v || v == a) W :=
  h.set ha 15 (.bool true) (fun cs hs h1 h2 h3 h4 => ⟨by rw [Array.getElem?_setIfInBounds_ne (by omega)]; exact h1, by rw [Array.getElem?_setIfInBounds_ne (by omega)]; exact h2, by simp [hs], by rw [Array.getElem?_setIfInBounds_ne (by omega)]; exact h4⟩)
    (fun v hv => by simp [hv]) (fun _ _ => rfl)
theorem St.wrap (h : St w C F P R fs d W) {a : Nat} (ha : a < fs.length) (k : Int) : St (w.setCell ⟨P a, 11, none⟩ (.int .u8 k)) C F P R fs d (fun v => if v = a then k else W v) :=
  h.set ha 11 (.int .u8 k) (fun cs hs h1 h2 h3 h4 => ⟨by rw [Array.getElem?_setIfInBounds_ne (by omega)]; exact h1, by simp [hs], by rw [Array.getElem?_setIfInBounds_ne (by omega)]; exact h3, by rw [Array.getElem?_setIfInBounds_ne (by omega)]; exact h4⟩)
    (fun _ _ => rfl) (fun v hv => by simp [hv])
theorem St.cell (h : St w C F P R fs d W) {a : Nat} (ha : a < fs.length) : w.cell? ⟨C, 10, none⟩ = some (.slice (some ⟨F, 0, none⟩) fs.length fs.length) ∧ C < w.heap.size ∧ w.cell? ⟨F, a * 24 + 2, none⟩ = some (.iface 82 (.pointer (some ⟨P a, 0, none⟩))) ∧ F < w.heap.size ∧
    w.cell? ⟨P a, 15, none⟩ = some (.bool (d a)) ∧ w.cell? ⟨P a, 11, none⟩ = some (.int .u8 (W a)) ∧ w.cell? ⟨P a, 62, none⟩ = some (.int .u8 (wf fs a).ek) ∧ w.cell? ⟨P a, 35, none⟩ = some (.slice (some ⟨R a, 0, none⟩) (wf fs a).iz.length (wf fs a).iz.length) ∧ P a < w.heap.size ∧ (∀ i, w.frozen? ⟨P a, i, none⟩ = false) := by
  obtain ⟨cs, h1, h2⟩ := h.c
  obtain ⟨gs, k1, k2⟩ := h.f
  obtain ⟨ds, q1, q2, q3, q4, q5, q6⟩ := h.p a ha
  exact ⟨(h1.cell 10).trans h2, h1.lt, (k1.cell _).trans (k2 a ha), k1.lt, (q1.cell _).trans q5, (q1.cell _).trans q4, (q1.cell _).trans q3, (q1.cell _).trans q6, q1.lt, fun i => q1.free i⟩
theorem St.rec_ (h : St w C F P R fs d W) {a j : Nat} (ha : a < fs.length) (hj : j < (wf fs a).iz.length) : R a < w.heap.size ∧ ∀ i, i < 15 → w.cell? ⟨R a, j * 15 + i, none⟩ = (rowL (fl (nth (wf fs a).iz j)))[i]? := by
  obtain ⟨cs, q1, q2⟩ := h.r a ha
  exact ⟨q1.lt, fun i hi => (q1.cell _).trans (q2 j hj i hi)⟩
end
theorem ta82 (p : Nat) (w : World) : (Instr.typeAssert (.iface 82 (.pointer (some ⟨p, 0, none⟩))) 105 82 false).run Try.prog w = .ok (.pointer (some ⟨p, 0, none⟩)) w := by kernel_rfl
def Dfs (C F : Nat) (P R : Nat → Nat) (fs : List Wf) (a : Nat) (d : Nat → Bool) (W : Nat → Int) (w : World) (e : Ending) (w' : World) : Prop :=
  e = .returned (.tuple #[]) ∧ ∃ d' W', St w' C F P R fs d' W' ∧ Mkd (EE fs) Z0 d a d' ∧ Upd Z0 (fW fs) d W d' W' ∧ Ext P fs.length w w'
/-- every import leads to a file -/
def OkE (fs : List Wf) : Prop := fs.length ≤ 4096 ∧ ∀ v, v < fs.length → (wf fs v).iz.length ≤ 1048576 ∧ ∀ j, j < (wf fs v).iz.length → nth (wf fs v).iz j < (fs.length : Int)
set_option maxHeartbeats 4000000 in
set_option maxRecDepth 100000 in
theorem dfs_done (C F : Nat) (P R : Nat → Nat) (fs : List Wf) (hok : OkE fs) (a : Nat) (ha : a < fs.length) (d : Nat → Bool) (W : Nat → Int) (hd : d a = true) (w : World) (hs : St w C F P R fs d W) :
    Calls Try.prog 11 #[.pointer (some ⟨C, 0, none⟩), .int .u32 (a : Int)] w (Dfs C F P R fs a d W w) := by
  obtain ⟨c1, l1, c2, l2, c3, c4, c5, c6, l3, _⟩ := hs.cell ha
  rw [hd] at c3
  have HS := Lib.hid hs
  obtain ⟨n, hn⟩ : ∃ n, fs.length = n := ⟨_, rfl⟩
  rw [hn] at c1
  have ha' : a < n := by omega
  have hta := ta82 (P a) w
  have HD := Lib.hid hd
  clear hs hd hok
  go_enter Try.func11, Try.ntmps11
  go_wp2_with fail
  exact bodyPost_ret (results_none rfl _ _ _) rfl ⟨rfl, d, W, HS.out, Mkd.done HD.out, Upd.refl _ _ _ _, Ext.refl _ _ _⟩
/-- the marks behind the first j imports of a -/
structure Lp (C F : Nat) (P R : Nat → Nat) (fs : List Wf) (a j : Nat) (d1 : Nat → Bool) (W1 : Nat → Int) (w wx : World) (d' : Nat → Bool) (W' : Nat → Int) : Prop where
  st : St wx C F P R fs d' W'
  mks : Mks (EE fs) Z0 d1 (csf ((wf fs a).iz.take j)) d'
  up : Upd Z0 (fW fs) d1 W1 d' W'
  ex : Ext P fs.length w wx
set_option maxHeartbeats 8000000 in
set_option maxRecDepth 100000 in
theorem dfs_step (C F : Nat) (P R : Nat → Nat) (fs : List Wf) (hok : OkE fs) (k : Nat) (ih : ∀ (a : Nat) (d : Nat → Bool) (W : Nat → Int) (w : World), a < fs.length → cnt d fs.length ≤ k → St w C F P R fs d W → Calls Try.prog 11 #[.pointer (some ⟨C, 0, none⟩), .int .u32 (a : Int)] w (Dfs C F P R fs a d W w))
    (a : Nat) (ha : a < fs.length) (d : Nat → Bool) (W : Nat → Int) (hd : d a = false) (hk : cnt d fs.length ≤ k + 1) (w : World) (hs : St w C F P R fs d W) :
    Calls Try.prog 11 #[.pointer (some ⟨C, 0, none⟩), .int .u32 (a : Int)] w (Dfs C F P R fs a d W w) := by
  obtain ⟨c1, l1, c2, l2, c3, c4, c5, c6, l3, fz⟩ := hs.cell ha
  rw [hd] at c3
  have HS := Lib.hid hs
  obtain ⟨n, hn⟩ : ∃ n, fs.length = n := ⟨_, rfl⟩
  rw [hn] at c1
  have ha' : a < n := by omega
  have hta := ta82 (P a) w
  have HD := Lib.hid hd
  have HK := Lib.hid hk
  have HIH := Lib.hid ih
  have HOK := Lib.hid hok
  have HA := Lib.hid ha
  have HN := Lib.hid hn
  have f15 := fz 15
  have s1 := hs.mark ha
  clear hs hd hok hk ih fz hn ha c4 c5 c6
  go_enter Try.func11, Try.ntmps11
  go_upto_region 3 with fail
  clear hta c1 l1 c2 l2 c3 f15 l3
  have H1 : Hid (St (w.setCell ⟨P a, 15, none⟩ (.bool true)) C F P R fs (fun v => d v || v == a) W ∧ Ext P fs.length w (w.setCell ⟨P a, 15, none⟩ (.bool true))) := Lib.hid ⟨s1, Ext.set HA.out _ _ _⟩
  clear s1
  generalize w.setCell ⟨P a, 15, none⟩ (.bool true) = w1 at H1 ⊢
  by_cases ha0 : a = 0
  · subst ha0
    go_wp2_with fail
    exact bodyPost_ret (results_none rfl _ _ _) rfl ⟨rfl, _, W, H1.out.1, Mkd.stop HD.out rfl, Upd.zone rfl, H1.out.2⟩
  · have e1 : decide ((a : Int) = 0) = false := by simp; omega
    have e2 : ((a : Int) == 0) = false := by simp; omega
    have HA0 := Lib.hid ha0
    clear ha0
    obtain ⟨x, hx⟩ : ∃ x, W a = x := ⟨_, rfl⟩
    obtain ⟨_, _, _, _, _, c4, c5, _, l3, fz⟩ := H1.out.1.cell HA.out
    rw [hx] at c4
    have f11 := fz 11
    clear fz
    have HX := Lib.hid hx
    clear hx
    go_upto_if 34 with fail
    go_cut [] (fun wc => Hid (St wc C F P R fs (fun v => d v || v == a) (fun v => if v = a then fW fs a (W a) else W v) ∧ Ext P fs.length w wc))
    case first =>
      obtain ⟨y, hy⟩ : ∃ y, (wf fs a).ek = y := ⟨_, rfl⟩
      rw [hy] at c5
      have HY := Lib.hid hy
      clear hy
      by_cases hx0 : x = 0
      · subst hx0
        by_cases hy1 : y = 1
        · subst hy1
          go_wp2_with fail
          go_meet
          have := H1.out.1.wrap HA.out 1
          exact Lib.hid ⟨by unfold fW; rw [HX.out, if_pos rfl, if_pos HY.out]; exact this, H1.out.2.trans (Ext.set HA.out _ _ _)⟩
        · have e3 : decide (y = 1) = false := by simp [hy1]
          have e4 : (y == 1) = false := by simp [hy1]
          have HY1 := Lib.hid hy1
          clear hy1
          go_wp2_with fail
          go_meet
          have := H1.out.1.wrap HA.out 2
          exact Lib.hid ⟨by unfold fW; rw [HX.out, if_pos rfl, if_neg (by rw [HY.out]; exact HY1.out)]; exact this, H1.out.2.trans (Ext.set HA.out _ _ _)⟩
      · have e3 : decide (x = 0) = false := by simp [hx0]
        have e4 : (x == 0) = false := by simp [hx0]
        have HX0 := Lib.hid hx0
        clear hx0
        go_wp2_with fail
        go_meet
        have h := H1.out.1
        refine Lib.hid ⟨?_, H1.out.2⟩
        have e : (fun v => if v = a then fW fs a (W a) else W v) = W := by
          funext v
          by_cases hv : v = a
          · subst hv; unfold fW; rw [if_pos rfl, if_neg (by rw [HX.out]; exact HX0.out)]
          · rw [if_neg hv]
        rw [e]
        exact h
    case rest =>
      obtain ⟨w2, rfl⟩ : ∃ w2 : World, w2 = wc := ⟨_, rfl⟩
      have H2 := hcut
      clear hcut H1 c4 c5 f11 e1 e2 l3
      obtain ⟨_, _, _, _, _, _, _, c6, l3, _⟩ := H2.out.1.cell HA.out
      obtain ⟨m, hm⟩ : ∃ m, (wf fs a).iz.length = m := ⟨_, rfl⟩
      rw [hm] at c6
      have HM := Lib.hid hm
      have hm20 : m ≤ 1048576 := by rw [← hm]; exact (HOK.out.2 a HA.out).1
      clear hm
      go_wp2_with fail
      clear c6 l3
      go_loopg [55] m (fun g x wx => ∃ (j : Nat), x = .int .i64 (j : Int) ∧ j ≤ m ∧ m - j ≤ g ∧ Hid (∃ d' W', Lp C F P R fs a j (fun v => d v || v == a) (fun v => if v = a then fW fs a (W a) else W v) w wx d' W'))
      case atStart => exact ⟨0, rfl, by omega, by omega, Lib.hid ⟨_, _, H2.out.1, Mks.nil, Upd.refl _ _ _ _, H2.out.2⟩⟩
      case round =>
        obtain ⟨j, rfl, hj, hg, HL⟩ := hrel
        obtain ⟨wz, rfl⟩ : ∃ wz : World, wz = wr := ⟨_, rfl⟩
        rcases (show m = j ∨ j < m by omega) with he | hlt
        · obtain rfl := he
          go_wp2_with fail
          obtain ⟨d', W', hl⟩ := HL.out
          have hd := HD.out
          have hz : ¬ Z0 a := HA0.out
          have hm := hl.mks
          rw [List.take_of_length_le (by rw [HM.out]; exact Nat.le_refl _)] at hm
          have hu : Upd Z0 (fW fs) d W (fun v => d v || v == a) (fun v => if v = a then fW fs a (W a) else W v) := by
            have h := Upd.one (Z := Z0) (f := fW fs) (d := d) (W := W) hz
            have e : (fun v => if v = a ∧ d a = false then fW fs a (W a) else W v) = (fun v => if v = a then fW fs a (W a) else W v) := by
              funext v
              by_cases hv : v = a
              · rw [if_pos ⟨hv, hd⟩, if_pos hv]
              · rw [if_neg (fun h => hv h.1), if_neg hv]
            rwa [e] at h
          go_end0
          exact ⟨rfl, d', W', hl.st, Mks.close hd hz (fun c => Iff.rfl) hm, hu.trans hl.up, hl.ex⟩
        · obtain ⟨d', W', hl⟩ := HL.out
          obtain ⟨lR, hc⟩ := hl.st.rec_ HA.out (j := j) (by rw [HM.out]; exact hlt)
          have HH := Lib.hid hl
          clear hl
          obtain ⟨t, ht⟩ : ∃ t, nth (wf fs a).iz j = t := ⟨_, rfl⟩
          rw [ht] at hc
          obtain ⟨x, hx⟩ : ∃ x, fl t = x := ⟨_, rfl⟩
          rw [hx] at hc
          have r0 := hc 0 (by omega)
          have r1 := hc 1 (by omega)
          have r2 := hc 2 (by omega)
          have r3 := hc 3 (by omega)
          have r4 := hc 4 (by omega)
          have r5 := hc 5 (by omega)
          have r6 := hc 6 (by omega)
          have r7 := hc 7 (by omega)
          have r8 := hc 8 (by omega)
          have r9 := hc 9 (by omega)
          have r10 := hc 10 (by omega)
          have r11 := hc 11 (by omega)
          have r12 := hc 12 (by omega)
          have r13 := hc 13 (by omega)
          have r14 := hc 14 (by omega)
          simp only [rowL, List.getElem?_cons_zero, List.getElem?_cons_succ] at r0 r1 r2 r3 r4 r5 r6 r7 r8 r9 r10 r11 r12 r13 r14
          rw [Nat.add_zero] at r0
          have HT := Lib.hid (And.intro ht hx)
          clear hc ht hx
          obtain ⟨Q, hQ⟩ : ∃ Q, wz.heap.size = Q := ⟨_, rfl⟩
          go_upto_region 11 with fail
          clear r0 r1 r2 r3 r4 r5 r6 r7 r8 r9 r10 r11 r12 r13 r14 lR
          obtain ⟨w3, hw3⟩ : ∃ w3, (wz.alloc (.cells #[.pointer none, .pointer none, .string ⟨#[]⟩, .string ⟨#[]⟩, .string ⟨#[]⟩, .string ⟨#[]⟩, .int .u8 0, .int .i32 0, .int .i32 0, .int .i32 0, .int .u32 x, .int .u32 0, .int .u16 0, .int .u8 0, .int .u8 0] 99)) = w3 := ⟨_, rfl⟩
          have H3 : Hid (wz.grownBy w3 none ∧ Blk w3 Q 99 #[.pointer none, .pointer none, .string ⟨#[]⟩, .string ⟨#[]⟩, .string ⟨#[]⟩, .string ⟨#[]⟩, .int .u8 0, .int .i32 0, .int .i32 0, .int .i32 0, .int .u32 x, .int .u32 0, .int .u16 0, .int .u8 0, .int .u8 0]) := Lib.hid (by
            rw [← hw3]
            refine ⟨gb_alloc (gb_refl _ _) _, ?_⟩
            have := Blk.new wz 99 #[.pointer none, .pointer none, .string ⟨#[]⟩, .string ⟨#[]⟩, .string ⟨#[]⟩, .string ⟨#[]⟩, .int .u8 0, .int .i32 0, .int .i32 0, .int .i32 0, .int .u32 x, .int .u32 0, .int .u16 0, .int .u8 0, .int .u8 0]
            rwa [hQ] at this)
          rw [hw3]
          clear hw3 hQ
          have q10 : w3.cell? ⟨Q, 10, none⟩ = some (.int .u32 x) := H3.out.2.cell 10
          have lQ := H3.out.2.lt
          have HCS := Lib.hid (csf_snoc (wf fs a).iz j (by rw [HM.out]; exact hlt))
          by_cases ht0 : 0 ≤ t
          · obtain ⟨c, rfl⟩ : ∃ c : Nat, t = (c : Int) := ⟨t.toNat, by omega⟩
            have hcn : c < fs.length := by
              have := (HOK.out.2 a HA.out).2 j (by rw [HM.out]; exact hlt)
              rw [HT.out.1] at this
              omega
            have hc4 : c < 4096 := by have := HOK.out.1; omega
            have hxc : x = 4294967295 - (c : Int) := by
              rw [← HT.out.2]
              unfold fl
              rw [if_pos (by omega)]
            subst hxc
            have e3 : decide (4294967295 - (c : Int) = 0) = false := by simp; omega
            have e4 : (4294967295 - (c : Int) == 0) = false := by simp; omega
            have HGI := Lib.hid (fun w => geti_any (c : Int) (by omega) (by omega) w)
            have HCN := Lib.hid hcn
            clear ht0 hcn hc4
            go_upto_if 61 with (go_at_call 12; refine (valid_any _ _).mono ?_; rintro e w4 ⟨rfl, hg4⟩; have H4 := Lib.hid (gb_trans H3.out.1 hg4); have q4 : w4.cell? ⟨Q, 10, none⟩ = some (.int .u32 (4294967295 - (c : Int))) := (H3.out.2.gb hg4 (by simp)).cell 10; have lQ4 := (H3.out.2.gb hg4 (by simp)).lt; clear hg4)
            clear q10 lQ
            go_upto_region 12 with fail
            have HR := Lib.hid (fun (w5 : World) (hg : wz.grownBy w5 none) => HIH.out c d' W' w5 HCN.out (by
              have h1 := cnt_mono HH.out.up.mono fs.length
              have h2 := cnt_mark HD.out fs.length HA.out
              have h3 := HK.out
              omega) (HH.out.st.gb hg))
            go_wp2_with (first | (go_at_call 13; refine (HGI.out _).mono ?_; rintro e w5 ⟨rfl, hg5⟩; have H5 := Lib.hid (gb_trans H4.out hg5); clear hg5) | (go_at_call 11; refine (HR.out _ H5.out).mono ?_; rintro e w6 ⟨rfl, d2, W2, hs2, hm2, hu2, hx2⟩; have H6 := Lib.hid (And.intro hs2 (And.intro hm2 (And.intro hu2 hx2))); clear hs2 hm2 hu2 hx2))
            go_roundg (gk - 1)
            case measure => omega
            case rel =>
              refine ⟨j + 1, by go_num, by omega, by omega, Lib.hid ⟨d2, W2, H6.out.1, ?_, HH.out.up.trans H6.out.2.2.1, (HH.out.ex.trans (Ext.of_gb H5.out)).trans H6.out.2.2.2⟩⟩
              have hcs := HCS.out
              rw [HT.out.1, if_pos (by omega), Int.toNat_natCast] at hcs
              rw [hcs]
              exact Mks.snoc HH.out.mks H6.out.2.1
          · have hx0 : x = 0 := by
              rw [← HT.out.2]
              unfold fl
              rw [if_neg (by omega)]
            subst hx0
            have HT0 := Lib.hid ht0
            clear ht0
            go_upto_if 61 with (go_at_call 12; refine (valid_any _ _).mono ?_; rintro e w4 ⟨rfl, hg4⟩; have H4 := Lib.hid (gb_trans H3.out.1 hg4); clear hg4)
            clear q10 lQ
            go_wp2_with fail
            go_roundg (gk - 1)
            case measure => omega
            case rel =>
              refine ⟨j + 1, by go_num, by omega, by omega, Lib.hid ⟨d', W', HH.out.st.gb H4.out, ?_, HH.out.up, HH.out.ex.trans (Ext.of_gb H4.out)⟩⟩
              have hcs := HCS.out
              rw [HT.out.1, if_neg (by have := HT0.out; omega)] at hcs
              rw [hcs]
              exact HH.out.mks
theorem dfs_any (C F : Nat) (P R : Nat → Nat) (fs : List Wf) (hok : OkE fs) : ∀ (k a : Nat) (d : Nat → Bool) (W : Nat → Int) (w : World), a < fs.length → cnt d fs.length ≤ k → St w C F P R fs d W → Calls Try.prog 11 #[.pointer (some ⟨C, 0, none⟩), .int .u32 (a : Int)] w (Dfs C F P R fs a d W w)
  | 0, a, d, W, w, ha, hk, hs => dfs_done C F P R fs hok a ha d W (cnt_zero fs.length (by omega) ha) w hs
  | k + 1, a, d, W, w, ha, hk, hs => by
    cases hd : d a with
    | true => exact dfs_done C F P R fs hok a ha d W hd w hs
    | false => exact dfs_step C F P R fs hok k (fun a d W w h1 h2 h3 => dfs_any C F P R fs hok k a d W w h1 h2 h3) a ha d W hd hk w hs
end Go.Proofs.Ytlfkdmncdafkiaa
