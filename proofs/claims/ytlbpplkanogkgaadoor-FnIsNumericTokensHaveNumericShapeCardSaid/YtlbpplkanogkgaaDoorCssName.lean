/-
  The css lexer's consumeName: where it stops, what it passes over. No statement of the seat is proved here.
-/
import Derived.Test.YtlbpplkanogkgaaDoorBld
import Derived.Deep.DeepCutAuto
import Derived.Deep.LoopGhost
namespace Go.Proofs.YtlbpplkanogkgaaDoor
open Go.RowKit
set_option linter.unusedVariables false
/-- a builder beside a lexer: it holds at most n bytes -/
def Bd (w : World) (B g n : Nat) : Prop := ∃ l : List UInt8, l.length ≤ n ∧ Lib.IsBuilderF 124 5 B g (Lib.byteCells l) w ∧ B ≤ w.heap.size
theorem rowF_gb {w w' : World} {B p : Nat} {v : Value} {n : Nat} {xs : List Value} (h : w.ownsRowF B 5 1 v n xs) (hg : w.grownBy w' (some p)) (hp : p < B) : w'.ownsRowF B 5 1 v n xs := by
  obtain ⟨h1, h2⟩ := h
  refine ⟨h1, ?_⟩
  rcases h2 with h | ⟨g, cap, cur, fz, a, b, c, d⟩
  · exact .inl h
  · exact .inr ⟨g, cap, cur, fz, a, b, gb_blk hg c (by intro e; cases e; omega), d⟩
theorem Bd.gb {w w' : World} {B g n p : Nat} (h : Bd w B g n) (hg : w.grownBy w' (some p)) (hp : p < B) : Bd w' B g n := by
  obtain ⟨l, hl, hb, hB⟩ := h
  have key : ∀ a, Lib.BuilderAtF 124 5 B g a (Lib.byteCells l) w → Lib.BuilderAtF 124 5 B g a (Lib.byteCells l) w' := by
    rintro a ⟨h1, v, h2, h3, h4⟩
    exact ⟨h1, v, gb_blk hg h2 (by intro e; cases e; omega), rowF_gb h3 hg hp, h4⟩
  exact ⟨l, hl, hb.imp (key _) (key _), Nat.le_trans hB hg.size⟩
theorem Bd.kept {w w' : World} {B g n : Nat} (h : Bd w B g n) (hb : Below w.heap.size w w') (h0 : 0 < B) : Bd w' B g n := h.gb (gb_of_below (some 0) hb) h0
theorem Lex.below {w w' : World} {p B : Nat} {x : Lx} {b q : Nat} (h : Lex w p x b q) (hb : Below B w w') (hp : p < B) : Lex w' p x b q := by
  have h1 := h.p1
  refine ⟨?_, h.hq, h.hst, h.hsz, h.hcb, tabs_below h.tabs hb (by omega) (by omega), h.p1⟩
  obtain ⟨cs, hc, hr⟩ := h.css
  exact ⟨cs, hc.below hb hp, hr⟩
theorem gb_below {a w w' : World} {B p : Nat} (h : a.grownBy w (some p)) (hb : Below B w w') (hB : a.heap.size ≤ B) : a.grownBy w' (some p) :=
  ⟨hb.os.trans h.os, hb.tape.trans h.tape, hb.output.trans h.output, Nat.le_trans h.size hb.size, fun i hi hne => (hb.block i (by omega)).trans (h.block i hi hne)⟩
theorem bd_str (B g n : Nat) (s : ByteArray) (w : World) (h : Bd w B g n) (hn : n + s.size ≤ 140737488355328) : Calls Tryd.prog 65 #[.pointer (some ⟨g, 0, none⟩), .string s] w fun e w' => ∃ v, e = .returned v ∧ Bd w' B g (n + s.size) ∧ Below B w w' := by
  obtain ⟨l, hl, hb, hB⟩ := h
  have hcl : (Lib.byteCells l).length = l.length := by simp [Lib.byteCells]
  refine (wstr_any B g _ s w hb (by omega) hB).mono ?_
  rintro e w' ⟨rfl, h1, h2⟩
  rw [Lib.strCells_eq, ← Lib.byteCells_append] at h1
  exact ⟨_, rfl, ⟨_, by rw [List.length_append]; simp; omega, .inr h1, Nat.le_trans hB h2.size⟩, h2⟩
theorem bd_rune (B g n : Nat) (r : Int) (w : World) (h : Bd w B g n) (hn : n + 4 ≤ 140737488355328) (hr0 : -2147483648 ≤ r) (hr1 : r ≤ 2147483647) : Calls Tryd.prog 66 #[.pointer (some ⟨g, 0, none⟩), .int .i32 r] w fun e w' => ∃ v, e = .returned v ∧ Bd w' B g (n + 4) ∧ Below B w w' := by
  obtain ⟨l, hl, hb, hB⟩ := h
  have hcl : (Lib.byteCells l).length = l.length := by simp [Lib.byteCells]
  have hk4 := Lib.runeCells_le r
  rw [← Lib.byteCells_encodeRune] at hk4
  have hcl2 : (Lib.byteCells (Lib.encodeRune r)).length = (Lib.encodeRune r).length := by simp [Lib.byteCells]
  refine (wrune_any B g _ r hr0 hr1 w hb (by omega) hB).mono ?_
  rintro e w' ⟨rfl, h1, h2⟩
  rw [← Lib.byteCells_encodeRune, ← Lib.byteCells_append] at h1
  exact ⟨_, rfl, ⟨_, by rw [List.length_append]; omega, .inr h1, Nat.le_trans hB h2.size⟩, h2⟩
theorem bd_string (B g n : Nat) (w : World) (h : Bd w B g n) : Calls Tryd.prog 68 #[.pointer (some ⟨g, 0, none⟩)] w fun e w' => ∃ v, e = .returned (.string v) ∧ Below B w w' := by
  obtain ⟨l, hl, hb, hB⟩ := h
  refine (Tryd.Builder_String_any_k B g l w hb hB).mono ?_
  rintro e w' ⟨rfl, h1, h2, h3⟩
  exact ⟨_, rfl, h2⟩
theorem bd_new (w : World) : Bd (w.alloc (.cells #[.pointer none, .slice none 0 0] 124)) w.heap.size w.heap.size 0 :=
  ⟨[], Nat.le_refl _, .inl ⟨Nat.le_refl _, .slice none 0 0, blk_new w _, ⟨rfl, .inl ⟨rfl, rfl⟩⟩, by simp [Value.ownBlock]⟩, by simp⟩
theorem nc_neg : nameCont (-1) = false := rfl
theorem nc_high (c : Int) (h : 128 ≤ c) : nameCont c = true := by simp only [nameCont, nameStart, Bool.or_eq_true, decide_eq_true_eq]; exact .inl (by omega)
theorem nc_10 {c : Int} (h : nameCont c = true) : c ≠ 10 := by intro e; subst e; exact absurd h (by decide)
theorem nc_92 {c : Int} (h : nameCont c = true) : c ≠ 92 := by intro e; subst e; exact absurd h (by decide)
/-- the code point at i continues no name -/
theorem nc_stop (s : ByteArray) (i : Nat) (h : i < s.size → nameCont (byteAt s i) = false) : nameCont (decAt s i).1 = false := by
  rcases decAt_cases s i with ⟨_, e⟩ | ⟨hl, hb, e⟩ | ⟨hl, hb, e⟩
  · rw [e]; rfl
  · rw [e]; exact h hl
  · have := h hl
    rw [nc_high _ (by omega)] at this
    cases this
theorem nc_in (s : ByteArray) (q : Nat) (hc : nameCont (decAt s q).1 = true) : q < s.size ∧ ∀ j, q ≤ j → j < q + (decAt s q).2 → nameCont (byteAt s j) = true := by
  rcases decAt_cases s q with ⟨_, e⟩ | ⟨hl, hb, e⟩ | ⟨hl, hb, e⟩
  · rw [e] at hc; exact absurd hc (by decide)
  · rw [e] at hc ⊢
    refine ⟨hl, fun j h1 h2 => ?_⟩
    obtain rfl : j = q := by simp only at h2; omega
    exact hc
  · obtain ⟨_, _, _, hj⟩ := decAt_high s q hl hb
    exact ⟨hl, fun j h1 h2 => nc_high _ (by have := hj j h1 h2; omega)⟩
theorem end_any (a b : Nat) (w : World) (h : a + b ≤ 2097152) : Calls Tryd.prog 59 #[.agg #[.int .i32 a, .int .i32 b]] w fun e w' => e = .returned (.int .i32 ((a + b : Nat) : Int)) ∧ Below w.heap.size w w' := by
  go_enter Tryd.func59, Tryd.ntmps59
  go_wp2
  go_ret
  exact ⟨by simp, (Below.refl _ _).alloc (Nat.le_refl _) _⟩
theorem Bd.mono {w : World} {B g n m : Nat} (h : Bd w B g n) (hm : n ≤ m) : Bd w B g m := by
  obtain ⟨l, h1, h2⟩ := h
  exact ⟨l, Nat.le_trans h1 hm, h2⟩
theorem vesc_92 {s : ByteArray} {q : Nat} (h : vEsc s q = true) : (decAt s q).1 = 92 ∧ q < s.size ∧ byteAt s q = 92 := by
  unfold vEsc at h
  simp only [Bool.and_eq_true, decide_eq_true_eq] at h
  obtain ⟨h1, h2, _⟩ := decAt_small s q h.1 (by omega) (by omega)
  exact ⟨h.1, h1, by omega⟩
/-- the loop behind a first escape: k bytes are left -/
def NRel (w : World) (p : Nat) (x : Lx) (b q1 B g k : Nat) (wr : World) : Prop := ∃ q2, q1 < q2 ∧ Lex wr p x b q2 ∧ x.s.size - q2 ≤ k ∧ Bd wr B g (2097152 + 4 * q2) ∧ w.grownBy wr (some p)
/-- behind the plain run of a name -/
def Run (s : ByteArray) (q q1 : Nat) : Prop := q ≤ q1 ∧ q1 ≤ s.size ∧ nameCont (decAt s q1).1 = false ∧ (∀ j, q ≤ j → j < q1 → nameCont (byteAt s j) = true) ∧ (nameCont (decAt s q).1 = true → q < q1)
/-- what consumeName passes over: names alone (it hands the text back), or an escape is among it -/
def NameTo (s : ByteArray) (st q q' : Nat) (v : ByteArray) : Prop := q ≤ q' ∧ q' ≤ s.size ∧ nameCont (decAt s q').1 = false ∧ vEsc s q' = false ∧
  ((v = s.extract st q' ∧ ∀ j, q ≤ j → j < q' → nameCont (byteAt s j) = true) ∨ ∃ j, q ≤ j ∧ j < q' ∧ byteAt s j = 92) ∧ ((nameCont (decAt s q).1 = true ∨ vEsc s q = true) → q < q')
def Named (w : World) (p : Nat) (x : Lx) (b q : Nat) (r : Ending) (w' : World) : Prop := ∃ (v : ByteArray) (q' : Nat), r = .returned (.string v) ∧ NameTo x.s x.st q q' v ∧ Lex w' p x b q' ∧ w.grownBy w' (some p)
def AtRun (w : World) (p : Nat) (x : Lx) (b q : Nat) (wc : World) : Prop := ∃ q1, Run x.s q q1 ∧ Lex wc p x b q1 ∧ w.grownBy wc (some p)
set_option maxRecDepth 100000 in
set_option maxHeartbeats 4000000 in
theorem name_any (p : Nat) (x : Lx) (b q : Nat) (w : World) (h : Lex w p x b q) : Calls Tryd.prog 56 #[.pointer (some ⟨p, 0, none⟩)] w (Named w p x b q) := by
  obtain ⟨c10, c33, c35, c36, c37⟩ := h.cells
  have hsz := h.hsz
  have hle := decAt_le x.s q h.hq
  have hq0 := h.hq
  obtain ⟨c, hc⟩ : ∃ c, (decAt x.s q).1 = c := ⟨_, rfl⟩
  obtain ⟨n, hn⟩ : ∃ n, q + (decAt x.s q).2 = n := ⟨_, rfl⟩
  rw [hc] at c35
  rw [hn] at c33 hle
  have HN := Lib.hid (nc_any c)
  have H := Lib.hid (And.intro h (And.intro hc hn))
  have f33 := h.css.free 33
  clear h hc hn c36 c37
  go_enter Tryd.func56, Tryd.ntmps56
  go_upto_if 17 with (go_at_call 63; refine (HN.out _).mono ?_; rintro e w1 ⟨rfl, rfl⟩)
  go_cut [] (fun wc => AtRun w p x b q wc)
  case first =>
    cases hnc : nameCont c
    · have HR := Lib.hid hnc
      clear hnc
      go_wp2_with fail
      go_meet
      exact ⟨q, ⟨Nat.le_refl _, hq0, by rw [H.out.2.1]; exact HR.out, fun j h1 h2 => by omega, fun h => by rw [H.out.2.1, HR.out] at h; cases h⟩, H.out.1, gb_refl _ _⟩
    · have HR := Lib.hid hnc
      clear hnc
      go_wp2_with fail
      go_loop [5] (fun i => ∃ k : Nat, i = .int .i64 k ∧ n ≤ k ∧ k ≤ x.s.size ∧ Hid (∀ j, n ≤ j → j < k → nameCont (byteAt x.s j) = true)) (fun i => x.s.size - (intOf i).toNat)
      case atStart => exact ⟨n, rfl, Nat.le_refl _, hle, Lib.hid (fun j h1 h2 => by omega)⟩
      case round =>
        obtain ⟨k, rfl, hk1, hk2, HK⟩ := hrel
        by_cases hgo : ∃ hlt : k < x.s.size, nameCont (byteAt x.s k) = true
        · obtain ⟨hlt, hb⟩ := hgo
          have eb := byteAt_get x.s k hlt
          have hbl := byteAt_lt x.s k
          have HB := Lib.hid (nc_any (byteAt x.s k))
          rw [hb] at HB
          have HK2 : Hid (∀ j, n ≤ j → j < k + 1 → nameCont (byteAt x.s j) = true) := Lib.hid (fun j h1 h2 => by
            rcases (show j < k ∨ j = k by omega) with h | rfl
            · exact HK.out j h1 h
            · exact hb)
          clear hb
          generalize byteAt x.s k = bk at eb hbl HB
          go_wp2_with (go_at_call 63; refine (HB.out _).mono ?_; rintro e w1 ⟨rfl, rfl⟩)
          go_round
          case rel => exact ⟨k + 1, by go_num, by omega, by omega, HK2⟩
          case measure => simp [intOf]; omega
        · have hstop : k < x.s.size → nameCont (byteAt x.s k) = false := fun hl => by
            cases hb : nameCont (byteAt x.s k) with
            | false => rfl
            | true => exact absurd ⟨hl, hb⟩ hgo
          have HST := Lib.hid hstop
          have hq1 : q < k := by
            have := decAt_pos x.s q (nc_in x.s q (by rw [H.out.2.1]; exact HR.out)).1
            have := H.out.2.2
            omega
          have hcn : cntNL x.s k = cntNL x.s (q + (decAt x.s q).2) := by
            rw [H.out.2.2]
            obtain ⟨d, rfl⟩ := Nat.exists_eq_add_of_le hk1
            exact cntNL_none x.s n d (fun j h1 h2 => fun e => nc_10 (HK.out j h1 h2) (by omega))
          have HCN := Lib.hid hcn
          have HRUN : Hid (Run x.s q k) := Lib.hid ⟨by omega, hk2, nc_stop x.s k HST.out, fun j h1 h2 => by
            rcases (show j < n ∨ n ≤ j by omega) with h | h
            · exact (nc_in x.s q (by rw [H.out.2.1]; exact HR.out)).2 j h1 (by have := H.out.2.2; omega)
            · exact HK.out j h h2, fun _ => hq1⟩
          have HSTEP : Hid (∀ wx, Css wx p {x.at b q with cur := k} → Lib.Utf8Tabs 0 1 wx → Calls Tryd.prog 54 #[.pointer (some ⟨p, 0, none⟩)] wx (Moved wx p (x.at b k))) := Lib.hid (fun wx hcs htb => by
            have hle2 := H.out.1
            have := css_step p {x.at b q with cur := k} wx hcs hk2 hsz (by show x.st ≤ k; have := hle2.hst; omega) (by
              show cntNL x.s (q + (decAt x.s q).2) - b ≤ _
              have := cntNL_le x.s (q + (decAt x.s q).2)
              have := decAt_le x.s q hle2.hq
              omega) htb
            rwa [Lx.laid_step x b q k hk2 (by rw [H.out.2.2]; exact hk1) hle2.hcb HCN.out] at this)
          clear hcn hstop
          rcases (show k = x.s.size ∨ k < x.s.size by omega) with rfl | hlt
          · clear hgo
            go_wp2_with fail
            refine (HSTEP.out _ (H.out.1.css.set_cur _) (tabs_gbn H.out.1.tabs (gb_set (gb_refl w (some p)) _ _ _) (by have := H.out.1.p1; simp; omega) (by have := H.out.1.p1; simp; omega))).mono ?_
            rintro e w2 ⟨rfl, h2, g2⟩
            have H2 := Lib.hid (And.intro h2 (gb_trans (gb_set (gb_refl w (some p)) _ _ _) g2))
            clear h2 g2
            go_wp2_with fail
            go_meet
            exact ⟨_, HRUN.out, lex_of H.out.1 H2.out.1 rfl rfl H2.out.2 (by omega) (by omega), H2.out.2⟩
          · have eb := byteAt_get x.s k hlt
            have hbl := byteAt_lt x.s k
            have HB := Lib.hid (nc_any (byteAt x.s k))
            rw [HST.out hlt] at HB
            generalize byteAt x.s k = bk at eb hbl HB
            clear hgo
            go_wp2_with (go_at_call 63; refine (HB.out _).mono ?_; rintro e w1 ⟨rfl, rfl⟩)
            refine (HSTEP.out _ (H.out.1.css.set_cur _) (tabs_gbn H.out.1.tabs (gb_set (gb_refl w (some p)) _ _ _) (by have := H.out.1.p1; simp; omega) (by have := H.out.1.p1; simp; omega))).mono ?_
            rintro e w2 ⟨rfl, h2, g2⟩
            have H2 := Lib.hid (And.intro h2 (gb_trans (gb_set (gb_refl w (some p)) _ _ _) g2))
            clear h2 g2
            go_wp2_with fail
            go_meet
            exact ⟨_, HRUN.out, lex_of H.out.1 H2.out.1 rfl rfl H2.out.2 (by omega) (by omega), H2.out.2⟩
  case rest =>
    obtain ⟨q1, hrun, l1, g1⟩ := hcut
    have hp1 := l1.lt
    have hst1 := l1.hst
    have hq1 := l1.hq
    have L1 := Lib.hid (And.intro hrun (And.intro l1 g1))
    obtain ⟨d10, d33, d35, d36, d37⟩ := l1.cells
    clear hrun l1 g1 c10 c33 c35 f33 d10 d33 d35
    obtain ⟨ln, hln⟩ : ∃ ln, q1 - x.st = ln := ⟨_, rfl⟩
    rw [hln] at d37
    have hq1' : x.st + ln = q1 := by omega
    have HLN := Lib.hid hq1'
    clear hln hq1'
    have HE := Lib.hid (fun w' => end_any x.st ln w' (by have := HLN.out; omega))
    rw [HLN.out] at HE
    have k0 : (0 : Int) ≤ (x.st : Int) := by omega
    have k1 : (x.st : Int) ≤ (q1 : Int) := by omega
    have k2 : (q1 : Int) ≤ (x.s.size : Int) := by omega
    go_wp2_with fail
    go_region_held3 (fun w' => w'.cell? ⟨p, 36, none⟩ = some (.int .i32 x.st) ∧ w'.cell? ⟨p, 37, none⟩ = some (.int .i32 ln)) (first | go_keep | exact ⟨(hbel.cell (p := ⟨p, 36, none⟩) hp1).trans d36, (hbel.cell (p := ⟨p, 37, none⟩) hp1).trans d37⟩) (first | (go_at_call 59; refine (HE.out wc.drew).mono ?_; rintro e w' ⟨rfl, hbel⟩))
    have l2 : Lex w' p x b q1 := (L1.out.2.1.drew).kept hbel
    have g2 : w.grownBy w' (some p) := gb_trans (gb_drew L1.out.2.2) (gb_of_below _ hbel)
    have L2 := Lib.hid (And.intro l2 g2)
    have hv := vesc_any p x b q1 w' l2
    clear l2 g2 hbel d36 d37
    go_wp2_with fail
    cases hve : vEsc x.s q1
    · rw [hve] at hv
      have HV := Lib.hid hve
      clear hve
      refine hv.mono ?_
      rintro e w3 ⟨rfl, b3⟩
      have H3 := Lib.hid (And.intro (L2.out.1.kept b3) (gb_trans L2.out.2 (gb_of_below _ b3)))
      clear hv b3
      go_wp2_with fail
      go_ret
      exact ⟨_, q1, rfl, ⟨L1.out.1.1, hq1, L1.out.1.2.2.1, HV.out, .inl ⟨rfl, L1.out.1.2.2.2.1⟩, fun h => by
        rcases h with h | h
        · exact L1.out.1.2.2.2.2 h
        · rcases (show q = q1 ∨ q < q1 by have := L1.out.1.1; omega) with e | e
          · subst e; rw [HV.out] at h; cases h
          · exact e⟩, H3.out.1, H3.out.2⟩
    · rw [hve] at hv
      have HV := Lib.hid (vesc_92 hve)
      clear hve
      refine hv.mono ?_
      rintro e w3 ⟨rfl, b3⟩
      have H3 := Lib.hid (And.intro (L2.out.1.kept b3) (gb_trans L2.out.2 (gb_of_below _ b3)))
      have hz3 : w.heap.size ≤ w3.heap.size := (H3.out.2).size
      have hpw3 := H3.out.1.lt
      clear hv b3
      go_wp2_with fail
      have hsr : (x.s.extract x.st q1).size ≤ 2097152 := by simp; omega
      refine (bd_str w3.heap.size w3.heap.size 0 _ _ (bd_new w3) (by omega)).mono ?_
      rintro e w4 ⟨v4, rfl, b4, e4⟩
      have l4 : Lex w4 p x b q1 := (H3.out.1.alloc _).below e4 hpw3
      have g4 : w.grownBy w4 (some p) := gb_below (gb_alloc H3.out.2 _) e4 hz3
      have H4 := Lib.hid (And.intro l4 (And.intro g4 (b4.mono (show 0 + (x.s.extract x.st q1).size ≤ 2097152 by omega))))
      clear l4 g4 b4 e4
      go_wp2_with fail
      refine (esc_any p x b q1 _ H4.out.1 HV.out.1).mono ?_
      rintro e w5 ⟨v, q2, rfl, v0, v1, hq2, l5, g5⟩
      have H5 := Lib.hid (And.intro l5 (And.intro (gb_trans H4.out.2.1 g5) (H4.out.2.2.gb g5 hpw3)))
      clear l5 g5
      go_wp2_with fail
      refine (bd_rune w3.heap.size w3.heap.size _ v _ H5.out.2.2 (by omega) v0 v1).mono ?_
      rintro e w6 ⟨v6, rfl, b6, e6⟩
      have H6 := Lib.hid (And.intro (H5.out.1.below e6 hpw3) (And.intro (gb_below H5.out.2.1 e6 hz3) b6))
      clear b6 e6
      go_wp2_with fail
      go_loopg [] (x.s.size - q2) (fun k wr => NRel w p x b q1 w3.heap.size w3.heap.size k wr)
      case atStart => exact ⟨q2, hq2, H6.out.1, Nat.le_refl _, H6.out.2.2.mono (by omega), H6.out.2.1⟩
      case round =>
        obtain ⟨q3, hq3, l7, hk7, b7, g7⟩ := hrel
        have hq3s := l7.hq
        obtain ⟨d10, d33, d35, d36, d37⟩ := l7.cells
        obtain ⟨c3, hc3⟩ : ∃ c, (decAt x.s q3).1 = c := ⟨_, rfl⟩
        have rg := decAt_range x.s q3
        rw [hc3] at d35 rg
        have hv := vesc_any p x b q3 wr l7
        have HN3 := nc_any c3 wr
        have H7 := Lib.hid (And.intro l7 (And.intro g7 (And.intro b7 hc3)))
        clear d10 d33 d36 d37 l7 b7 g7 hc3
        cases hnc : nameCont c3
        · rw [hnc] at HN3
          have HC := Lib.hid hnc
          clear hnc
          go_wp2_with fail
          refine HN3.mono ?_
          rintro e w8 ⟨rfl, rfl⟩
          go_wp2_with fail
          cases hve : vEsc x.s q3
          · rw [hve] at hv
            have HV3 := Lib.hid hve
            clear hve
            refine hv.mono ?_
            rintro e w9 ⟨rfl, b9⟩
            have H9 := Lib.hid (And.intro (H7.out.1.kept b9) (And.intro (gb_trans H7.out.2.1 (gb_of_below _ b9)) (H7.out.2.2.1.kept b9 (by omega))))
            clear hv HN3 b9
            go_wp2_with fail
            refine (bd_string _ _ _ _ H9.out.2.2).mono ?_
            rintro e wa ⟨va, rfl, ba⟩
            have HA := Lib.hid (And.intro (H9.out.1.below ba hpw3) (gb_below H9.out.2.1 ba hz3))
            clear ba
            go_wp2_with fail
            go_ret
            refine ⟨_, q3, rfl, ⟨by have := L1.out.1.1; omega, hq3s, by rw [H7.out.2.2.2]; exact HC.out, HV3.out, .inr ⟨q1, L1.out.1.1, by omega, HV.out.2.2⟩, fun _ => by have := L1.out.1.1; omega⟩, HA.out.1, HA.out.2⟩
          · rw [hve] at hv
            have HV3 := Lib.hid (vesc_92 hve)
            clear hve
            refine hv.mono ?_
            rintro e w9 ⟨rfl, b9⟩
            have H9 := Lib.hid (And.intro (H7.out.1.kept b9) (And.intro (gb_trans H7.out.2.1 (gb_of_below _ b9)) (H7.out.2.2.1.kept b9 (by omega))))
            clear hv HN3 b9
            go_wp2_with fail
            refine (esc_any p x b q3 _ H9.out.1 HV3.out.1).mono ?_
            rintro e wa ⟨v, q4, rfl, v0, v1, hq4, la, ga⟩
            have HA := Lib.hid (And.intro la (And.intro (gb_trans H9.out.2.1 ga) (H9.out.2.2.gb ga hpw3)))
            have hq4s := la.hq
            clear la ga
            go_wp2_with fail
            refine (bd_rune w3.heap.size w3.heap.size _ v _ HA.out.2.2 (by omega) v0 v1).mono ?_
            rintro e wb ⟨vb, rfl, bb, eb⟩
            have HB := Lib.hid (And.intro (HA.out.1.below eb hpw3) (And.intro (gb_below HA.out.2.1 eb hz3) bb))
            clear bb eb
            go_wp2_with fail
            go_roundg (x.s.size - q4)
            case measure => have := HV3.out.2.1; omega
            case rel => exact ⟨q4, by omega, HB.out.1, Nat.le_refl _, HB.out.2.2.mono (by omega), HB.out.2.1⟩
        · rw [hnc] at HN3
          have HC := Lib.hid (nc_in x.s q3 (by rw [H7.out.2.2.2]; exact hnc)).1
          clear hnc
          go_wp2_with fail
          refine HN3.mono ?_
          rintro e w8 ⟨rfl, rfl⟩
          go_wp2_with fail
          refine (bd_rune w3.heap.size w3.heap.size _ c3 _ H7.out.2.2.1 (by omega) (by omega) (by omega)).mono ?_
          rintro e w9 ⟨v9, rfl, b9, e9⟩
          have H9 := Lib.hid (And.intro (H7.out.1.below e9 hpw3) (And.intro (gb_below H7.out.2.1 e9 hz3) b9))
          clear hv HN3 b9 e9
          go_wp2_with fail
          refine (lex_step p x b q3 _ H9.out.1).mono ?_
          rintro e wa ⟨rfl, la, ga⟩
          have HA := Lib.hid (And.intro la (And.intro (gb_trans H9.out.2.1 ga) (H9.out.2.2.gb ga hpw3)))
          have hwa := decAt_pos x.s q3 HC.out
          clear la ga
          generalize (decAt x.s q3).2 = W3 at HA hwa
          go_wp2_with fail
          go_roundg (x.s.size - (q3 + W3))
          case measure => have := HC.out; omega
          case rel => exact ⟨q3 + W3, by omega, HA.out.1, Nat.le_refl _, HA.out.2.2.mono (by omega), HA.out.2.1⟩
end Go.Proofs.YtlbpplkanogkgaaDoor
