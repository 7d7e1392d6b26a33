/-
  consumeToEndOfMultiLineComment over a comment that ends and is not legal. No statement of the seat is proved here.
-/
import Derived.Test.YtfpiokpdpdokjaaDoorCex
import Derived.Test.YtfpiokpdpdokjaaDoorCzc
import Derived.Test.YtfpiokpdpdokjaaDoorCap
import Derived.Deep.CutRange
namespace Go.Proofs.YtfpiokpdpdokjaaDoor
open Go.RowKit
set_option linter.unusedVariables false
def sUrl : ByteArray := ⟨#[32, 115, 111, 117, 114, 99, 101, 77, 97, 112, 112, 105, 110, 103, 85, 82, 76, 61]⟩
/-- the body holds a source map's place -/
def UrlB (bd : ByteArray) : Prop := (byteAt bd 0 = 35 ∨ byteAt bd 0 = 64) ∧ HasAt bd sUrl 1
/-- where the place ends -/
def EndK (bd : ByteArray) (K : Nat) : Prop := K ≤ bd.size - 19 ∧ (∀ i, i < K → isWS (byteAt bd (19 + i) : Int) = false) ∧ (K = bd.size - 19 ∨ isWS (byteAt bd (19 + K) : Int) = true)
def UrlV (bd : ByteArray) (x : Lx) (K : Nat) (x' : Lx) : Prop :=
  (UrlB bd ∧ x'.mt = bd.extract 19 (19 + K) ∧ x'.ms = 21 ∧ x'.ml = (K : Int)) ∨ (¬ UrlB bd ∧ x'.mt = x.mt ∧ x'.ms = x.ms ∧ x'.ml = x.ml)
def AlV (w : World) (m : Nat) (x x' : Lx) : Prop :=
  (x.ra = true ∧ ∃ g cap, x'.al = .slice (some ⟨g, 0, none⟩) 1 cap ∧ w.cell? ⟨g, 0, none⟩ = some (.int .i32 0) ∧ w.cell? ⟨g, 1, none⟩ = some (.int .i32 m)) ∨ (x.ra = false ∧ x'.al = x.al)
theorem sUrl_ne : ∀ j, j < sUrl.size → byteAt sUrl j ≠ 42 ∧ byteAt sUrl j ≠ 47 := by
  have h : ∀ j, j < 18 → byteAt sUrl j ≠ 42 ∧ byteAt sUrl j ≠ 47 := by decide +kernel
  exact h
theorem sPre_ne : ∀ j, j < sPre.size → byteAt sPre j ≠ 42 ∧ byteAt sPre j ≠ 47 := by
  have h : ∀ j, j < 9 → byteAt sPre j ≠ 42 ∧ byteAt sPre j ≠ 47 := by decide +kernel
  exact h
theorem sLic_ne : ∀ j, j < sLic.size → byteAt sLic j ≠ 42 ∧ byteAt sLic j ≠ 47 := by
  have h : ∀ j, j < 8 → byteAt sLic j ≠ 42 ∧ byteAt sLic j ≠ 47 := by decide +kernel
  exact h
theorem url_at {s bd : ByteArray} (hc : Cm s bd) {c : Int} (h : (decAt s 2).1 = c) (hcc : c = 35 ∨ c = 64) : (decAt s 2).2 = 1 ∧ 3 ≤ s.size ∧ (UrlB bd ↔ HasAt s sUrl 3) := by
  have hz := hc.sz
  have hb : (byteAt s 2 = 35 ∨ byteAt s 2 = 64) ∧ (decAt s 2).2 = 1 := by
    rcases hcc with rfl | rfl
    · obtain ⟨_, h2, h3⟩ := decAt_small s 2 h (by decide) (by decide)
      exact ⟨.inl (by omega), h3⟩
    · obtain ⟨_, h2, h3⟩ := decAt_small s 2 h (by decide) (by decide)
      exact ⟨.inr (by omega), h3⟩
  have hB : 1 ≤ bd.size := by
    rcases (show bd.size = 0 ∨ 1 ≤ bd.size by omega) with h0 | h0
    · have e := hc.e0
      rw [h0] at e
      simp only [Nat.zero_add] at e
      omega
    · exact h0
  refine ⟨hb.2, by omega, ?_, ?_⟩
  · intro hu
    exact hc.outside (i := 1) hu.2
  · intro hh
    have hi := (hc.inside sUrl (by decide) sUrl_ne (i := 3) (by omega) hh.2).2
    refine ⟨?_, hi⟩
    have := hc.bb 0 (by omega)
    rw [Nat.add_zero] at this
    rw [← this]; exact hb.1
theorem url_not {s bd : ByteArray} (hc : Cm s bd) {c : Int} (h : (decAt s 2).1 = c) (hcc : ¬ (c = 35 ∨ c = 64)) : ¬ UrlB bd := by
  rintro ⟨h1, h2⟩
  have hz := hc.sz
  have hB : 19 ≤ bd.size := h2.1
  have := hc.bb 0 (by omega)
  rw [Nat.add_zero] at this
  refine hcc ?_
  rw [← h, decAt_ascii s 2 (by omega) (by rw [this]; omega), this]
  rcases h1 with h1 | h1
  · exact .inl (by simp [h1])
  · exact .inr (by simp [h1])
theorem not_bang {s bd : ByteArray} (hc : Cm s bd) (hl : NoLeg bd) {c : Int} (h : (decAt s 2).1 = c) : c ≠ 33 := by
  rintro rfl
  obtain ⟨_, h2, h3⟩ := decAt_small s 2 h (by decide) (by decide)
  rcases (show bd.size = 0 ∨ 0 < bd.size by omega) with h0 | h0
  · have e := hc.e0
    rw [h0] at e
    simp only [Nat.zero_add] at e
    omega
  · have := hc.bb 0 h0
    rw [Nat.add_zero] at this
    exact hl.1 ⟨h0, by omega⟩
def IsCm (bd : ByteArray) (p : Nat) (x : Lx) (K : Nat) (w : World) (e : Ending) (w' : World) : Prop :=
  e = .returned (.tuple #[]) ∧ ∃ x', Lex w' p x' 0 (bd.size + 4) ∧ x'.s = x.s ∧ x'.st = 0 ∧ x'.lg = x.lg ∧ UrlV bd x K x' ∧ AlV w' (bd.size + 4) x x' ∧ w.grownBy w' (some p)
theorem gb_new {w a b : World} {p : Option Nat} {g : Nat} (h : w.grownBy a p) (hg : a.grownBy b (some g)) (hn : w.heap.size ≤ g) : w.grownBy b p :=
  ⟨hg.os.trans h.os, hg.tape.trans h.tape, hg.output.trans h.output, Nat.le_trans h.size hg.size, fun i hi hne => (hg.block i (Nat.lt_of_lt_of_le hi h.size) (fun e => by cases e; omega)).trans (h.block i hi hne)⟩
theorem lex_url {w : World} {p m : Nat} {x : Lx} (t : ByteArray) (i : Int) (h : Lex w p x 0 m) :
    Lex (((w.drew.setCell ⟨p, 19, none⟩ (.string t)).setCell ⟨p, 20, none⟩ (.int .i32 21)).setCell ⟨p, 21, none⟩ (.int .i32 i)) p {x with mt := t, ms := 21, ml := i} 0 m ∧
    w.grownBy (((w.drew.setCell ⟨p, 19, none⟩ (.string t)).setCell ⟨p, 20, none⟩ (.int .i32 21)).setCell ⟨p, 21, none⟩ (.int .i32 i)) (some p) := by
  have hg : w.grownBy (((w.drew.setCell ⟨p, 19, none⟩ (.string t)).setCell ⟨p, 20, none⟩ (.int .i32 21)).setCell ⟨p, 21, none⟩ (.int .i32 i)) (some p) :=
    gb_set (gb_set (gb_set (show w.grownBy w.drew (some p) from ⟨rfl, rfl, rfl, Nat.le_refl _, fun _ _ _ => rfl⟩) 19 none _) 20 none _) 21 none _
  exact ⟨lex_of h (((h.css.drew.set_mt t).set_ms 21).set_ml i) rfl rfl hg (Nat.le_refl _) h.hq, hg⟩
theorem url_txt {bd T : ByteArray} {K : Nat} (hT : T.size = bd.size - 19) (h19 : 19 ≤ bd.size) (hK : K ≤ bd.size - 19) (hb : ∀ i, i < T.size → byteAt T i = byteAt bd (19 + i)) : T.extract 0 K = bd.extract 19 (19 + K) := by
  refine ba_ext (by simp; omega) (fun i hi => ?_)
  have hi' : i < K := by have : (T.extract 0 K).size = min K T.size := by simp
                         omega
  rw [byteAt_ext T 0 K i (by omega) (by omega), byteAt_ext bd 19 (19 + K) i (by omega) (by omega), Nat.zero_add]
  exact hb i (by omega)
theorem lex_al {w : World} {p m : Nat} {x : Lx} (v : Value) (h : Lex w p x 0 m) : Lex (w.setCell ⟨p, 17, none⟩ v) p {x with al := v} 0 m ∧ w.grownBy (w.setCell ⟨p, 17, none⟩ v) (some p) := by
  have hg : w.grownBy (w.setCell ⟨p, 17, none⟩ v) (some p) := gb_set (gb_refl _ _) 17 none _
  exact ⟨lex_of h (h.css.set_al v) rfl rfl hg (Nat.le_refl _) h.hq, hg⟩
theorem gb_cell {w w' : World} {row : Option Nat} (h : w.grownBy w' row) {p : Addr} (hne : some p.block ≠ row) (hl : p.block < w.heap.size) : w'.cell? p = w.cell? p :=
  World.cell?_of_block (h.block p.block hl hne)
theorem alv_kept {w w' : World} {m : Nat} {x x' : Lx} (h : AlV w m x x') (hb : Below w.heap.size w w') : AlV w' m x x' := by
  rcases h with ⟨h1, g, cap, h2, h3, h4⟩ | h
  · have hl := World.block_lt_of_cell? w _ h3
    exact .inl ⟨h1, g, cap, h2, (hb.cell (p := ⟨g, 0, none⟩) hl).trans h3, (hb.cell (p := ⟨g, 1, none⟩) hl).trans h4⟩
  · exact .inr h
/-- behind the source map's place -/
def C6 (bd : ByteArray) (p : Nat) (x : Lx) (K m rb : Nat) (w wx : World) : Prop := ∃ x1 : Lx, Lex wx p x1 0 m ∧ x1.s = x.s ∧ x1.st = 0 ∧ x1.lg = x.lg ∧ x1.al = x.al ∧ x1.ra = x.ra ∧ UrlV bd x K x1 ∧ Blk wx rb 36 #[.int .i32 0, .int .i32 2] ∧ w.grownBy wx (some p)
set_option maxRecDepth 100000 in
set_option maxHeartbeats 20000000 in
theorem cm_any (bd : ByteArray) (p : Nat) (x : Lx) (K : Nat) (w : World) (h : Lex w p x 0 2) (hst : x.st = 0) (hc : Cm x.s bd) (hn : ¬ Has bd ⟨#[42, 47]⟩) (hl : NoLeg bd) (hal : x.al = .slice none 0 0) (hK : EndK bd K) (hB : bd.size ≤ 524288) :
    Calls Tryd.prog 22 #[.pointer (some ⟨p, 0, none⟩), .agg #[.int .i32 0, .int .i32 2]] w (IsCm bd p x K w) := by
  have HC := Lib.hid (And.intro hc (And.intro hn (And.intro hl (And.intro hal hK))))
  obtain ⟨c, hcc⟩ : ∃ c, (decAt x.s 2).1 = c := ⟨_, rfl⟩
  obtain ⟨W, hW⟩ : ∃ W, (decAt x.s 2).2 = W := ⟨_, rfl⟩
  have hlt := h.lt
  have hl0 := h.alloc (.cells #[.int .i32 0, .int .i32 2] 36)
  have hb0 := Blk.new w 36 #[.int .i32 0, .int .i32 2]
  clear hc hn hl hal hK h
  go_enter Tryd.func22, Tryd.ntmps22
  go_upto_region 1 with fail
  obtain ⟨rb, hrb⟩ : ∃ rb, w.heap.size = rb := ⟨_, rfl⟩
  obtain ⟨wb, hwb⟩ : ∃ wb, w.alloc (.cells #[.int .i32 0, .int .i32 2] 36) = wb := ⟨_, rfl⟩
  have HW : Hid (w.grownBy wb (some p)) := Lib.hid (by rw [← hwb]; exact gb_trans (gb_refl _ _) (World.grownBy_alloc w _ _))
  rw [hrb] at hb0 hlt ⊢
  rw [hwb] at hl0 hb0 ⊢
  have h3 := hl0.cells
  rw [hcc, hW] at h3
  obtain ⟨c10, c33, c35, _, _⟩ := h3
  have HL := Lib.hid (And.intro hl0 (And.intro hb0 hrb))
  clear hl0 hb0 hwb hrb
  go_upto_block 0 with fail
  go_cut [4, 5] (fun a b wc => ∃ U : Nat, a = .int .i64 U ∧ b = .bool false ∧ (∃ n, wc = wb.drewN n) ∧ ((UrlB bd ∧ U = 21) ∨ (¬ UrlB bd ∧ U = 0)))
  case first =>
    rcases (show (c = 35 ∨ c = 64) ∨ ¬ (c = 35 ∨ c = 64) by omega) with hc1 | hc1
    · obtain ⟨hw1, hsz3, hiff⟩ := url_at HC.out.1 hcc hc1
      have HU := Lib.hid hiff
      rw [hw1] at hW
      subst hW
      have c33' : wb.cell? ⟨p, 33, none⟩ = some (.int .i64 3) := c33
      clear c33 hiff hw1 hcc
      have hbb : Hid (Lib.hasPrefix (x.s.extract 3 x.s.size).data.toList (#[32, 115, 111, 117, 114, 99, 101, 77, 97, 112, 112, 105, 110, 103, 85, 82, 76, 61] : Array UInt8).toList = true ↔ HasAt x.s sUrl 3) := Lib.hid (hp_at x.s sUrl 3 hsz3)
      obtain ⟨bb, hb⟩ : ∃ bb, Lib.hasPrefix (x.s.extract 3 x.s.size).data.toList (#[32, 115, 111, 117, 114, 99, 101, 77, 97, 112, 112, 105, 110, 103, 85, 82, 76, 61] : Array UInt8).toList = bb := ⟨_, rfl⟩
      have HPX : Hid (∀ w', Calls Tryd.prog 25 #[.string (x.s.extract 3 x.s.size), .string ⟨#[32, 115, 111, 117, 114, 99, 101, 77, 97, 112, 112, 105, 110, 103, 85, 82, 76, 61]⟩] w' fun e w'' => e = .returned (.bool bb) ∧ w'' = w') := Lib.hid (fun w' => by have := Tryd.strings_HasPrefix (x.s.extract 3 x.s.size) ⟨#[32, 115, 111, 117, 114, 99, 101, 77, 97, 112, 112, 105, 110, 103, 85, 82, 76, 61]⟩ w'; rw [hb] at this; exact this)
      have HB := Lib.hid hb
      clear hb
      rcases hc1 with rfl | rfl
      · rcases bb with _ | _
        · go_wp2
          go_quiet ((go_at_call 25; exact Calls.quiet_of_same (HPX.out _)))
          go_wp2_with fail
          go_meet
          exact ⟨0, rfl, rfl, ⟨_, rfl⟩, .inr ⟨fun c => (by have := hbb.out.2 (HU.out.1 c); rw [HB.out] at this; cases this), rfl⟩⟩
        · go_wp2
          go_quiet ((go_at_call 25; exact Calls.quiet_of_same (HPX.out _)))
          go_wp2_with fail
          go_meet
          exact ⟨21, rfl, rfl, ⟨_, rfl⟩, .inl ⟨HU.out.2 (hbb.out.1 HB.out), rfl⟩⟩
      · rcases bb with _ | _
        · go_wp2
          go_quiet ((go_at_call 25; exact Calls.quiet_of_same (HPX.out _)))
          go_wp2_with fail
          go_meet
          exact ⟨0, rfl, rfl, ⟨_, rfl⟩, .inr ⟨fun c => (by have := hbb.out.2 (HU.out.1 c); rw [HB.out] at this; cases this), rfl⟩⟩
        · go_wp2
          go_quiet ((go_at_call 25; exact Calls.quiet_of_same (HPX.out _)))
          go_wp2_with fail
          go_meet
          exact ⟨21, rfl, rfl, ⟨_, rfl⟩, .inl ⟨HU.out.2 (hbb.out.1 HB.out), rfl⟩⟩
    · have hne := not_bang HC.out.1 HC.out.2.2.1 hcc
      have t1 : (c == 35) = false := beq_eq_false_iff_ne.2 (by omega)
      have t2 : (c == 64) = false := beq_eq_false_iff_ne.2 (by omega)
      have t3 : (c == 33) = false := beq_eq_false_iff_ne.2 (by omega)
      have HU := Lib.hid (url_not HC.out.1 hcc hc1)
      clear hcc
      go_wp2_with fail
      go_meet
      exact ⟨0, rfl, rfl, ⟨0, rfl⟩, .inr ⟨HU.out, rfl⟩⟩
  case rest =>
    obtain ⟨U, rfl, rfl, ⟨nn, hwc⟩, hU⟩ := hcut
    have hG0 : w.grownBy wc (some p) := by rw [hwc]; exact gb_trans HW.out ⟨rfl, rfl, rfl, Nat.le_refl _, fun _ _ _ => rfl⟩
    have hL0 : Lex wc p x 0 2 := by rw [hwc]; exact HL.out.1.drewN nn
    have hR0 : Blk wc rb 36 #[.int .i32 0, .int .i32 2] := by rw [hwc]; exact HL.out.2.1
    have HS := Lib.hid (And.intro hL0 (And.intro hR0 hG0))
    have HU := Lib.hid hU
    clear c10 c33 c35 hwc hL0 hR0 hG0 hU hcc hW HW
    go_upto_region 10 with fail
    go_loopg [] (bd.size + 2) (fun k wr => ∃ q : Nat, 2 ≤ q ∧ q ≤ bd.size + 2 ∧ bd.size + 2 - q ≤ k ∧ Lex wr p x 0 q ∧ Blk wr rb 36 #[.int .i32 0, .int .i32 2] ∧ w.grownBy wr (some p))
    case atStart => exact ⟨2, Nat.le_refl _, by omega, by omega, HS.out⟩
    case round =>
      obtain ⟨q, hq2, hqB, hk, hlx, hrb, hgr⟩ := hrel
      have hsz := HC.out.1.sz
      have hss := hlx.hsz
      obtain ⟨d10, d33, d35, _, _⟩ := hlx.cells
      by_cases h42 : byteAt x.s q = 42
      · obtain ⟨hd1, hd2⟩ : (decAt x.s q).1 = 42 ∧ (decAt x.s q).2 = 1 := by
          rw [decAt_ascii x.s q (by omega) (by omega), h42]; exact ⟨rfl, rfl⟩
        rw [hd1] at d35
        rw [hd2] at d33
        obtain ⟨q1, hq1⟩ : ∃ q1, q + 1 = q1 := ⟨_, rfl⟩
        rw [hq1] at d33
        have hqs : (q1 : Int) - 1 = (q : Int) := by omega
        have hst1 := lex_step p x 0 q wr hlx
        rw [hd2, hq1] at hst1
        have HST := Lib.hid hst1
        have HR := Lib.hid (And.intro hrb hgr)
        clear hlx hrb hgr hst1 d10
        rcases (show q = bd.size + 2 ∨ q < bd.size + 2 by omega) with hqe | hlt2
        · obtain ⟨m, hm⟩ : ∃ m, bd.size + 4 = m := ⟨_, rfl⟩
          have hb47 : byteAt x.s q1 = 47 := by rw [← hq1, hqe]; exact HC.out.1.e1
          have hd3 : (decAt x.s q1).1 = 47 ∧ (decAt x.s q1).2 = 1 := by rw [decAt_ascii x.s q1 (by omega) (by omega), hb47]; exact ⟨rfl, rfl⟩
          have hqm : q1 + 1 = m := by omega
          have HD3 := Lib.hid (And.intro hd3 hqm)
          have HQ := Lib.hid (And.intro hqe hm)
          clear hd1 hd2 hd3 hb47 h42 hqe
          go_upto_region 17 with (go_at_call 21; refine HST.out.mono ?_; rintro e w1 ⟨rfl, hl1, hg1⟩; have e35 := hl1.cells.2.2.1; rw [HD3.out.1.1] at e35; have e33 := hl1.cells.2.1; rw [HD3.out.1.2, HD3.out.2] at e33; have H1 := Lib.hid (And.intro hl1 hg1); clear hl1 hg1)
          have hst2 := lex_step p x 0 q1 w1 H1.out.1
          rw [HD3.out.1.2, HD3.out.2] at hst2
          have HST2 := Lib.hid hst2
          clear hst2 e35 e33 d33 d35
          go_upto_if 64 with (go_at_call 21; refine HST2.out.mono ?_; rintro e w2 ⟨rfl, hl2, hg2⟩; have H2 := Lib.hid (And.intro hl2 hg2); clear hl2 hg2)
          have HA : Hid (Lex w2 p x 0 m ∧ Blk w2 rb 36 #[.int .i32 0, .int .i32 2] ∧ w.grownBy w2 (some p)) := Lib.hid ⟨H2.out.1, (HR.out.1.gb H1.out.2 (fun e => by cases e; omega)).gb H2.out.2 (fun e => by cases e; omega), gb_trans (gb_trans HR.out.2 H1.out.2) H2.out.2⟩
          clear HR H1 H2 HST HST2 HS
          go_cut [8, 9] from 37 to 185 (fun a b wx => C6 bd p x K m rb w wx)
          case first =>
            rcases HU.out with ⟨hu, hu2⟩ | ⟨hu, hu2⟩
            · subst hu2
              have hB19 : 19 ≤ bd.size := hu.2.1
              have h21 : 21 ≤ q := by have := HQ.out.1; omega
              have hqs2 : q ≤ x.s.size := by have := HQ.out.1; omega
              go_upto_region 20 with fail
              obtain ⟨ub, hub⟩ : ∃ ub, w2.heap.size = ub := ⟨_, rfl⟩
              obtain ⟨w3, hw3⟩ : ∃ w3, w2.alloc (.cells #[.int .i32 21, .int .i32 0] 36) = w3 := ⟨_, rfl⟩
              obtain ⟨T, hT⟩ : ∃ T, x.s.extract 21 q = T := ⟨_, rfl⟩
              have hub0 : w.heap.size ≤ ub := by rw [← hub]; exact HA.out.2.2.size
              have hpu : p < ub ∧ rb < ub := by rw [← hub]; exact ⟨HA.out.1.lt, HA.out.2.1.lt⟩
              have HS3 : Hid (Lex w3 p x 0 m ∧ Blk w3 rb 36 #[.int .i32 0, .int .i32 2] ∧ Blk w3 ub 36 #[.int .i32 21, .int .i32 ((0 : Nat) : Int)] ∧ w.grownBy w3 (some p)) := Lib.hid (by
                rw [← hw3, ← hub]
                exact ⟨HA.out.1.alloc _, HA.out.2.1.alloc _, Blk.new _ _ _, gb_trans HA.out.2.2 (World.grownBy_alloc _ _ _)⟩)
              have hTs : T.size = bd.size - 19 := by rw [← hT]; simp; have := HQ.out.1; omega
              have HTB : Hid (∀ i, i < T.size → byteAt T i = byteAt bd (19 + i)) := Lib.hid (fun i hi => by
                rw [← hT, byteAt_ext x.s 21 q i hqs2 (by omega), ← HC.out.1.bb (19 + i) (by omega)]
                congr 1; omega)
              have hKb := HC.out.2.2.2.2.1
              have HTX := Lib.hid hT
              have HTs := Lib.hid hTs
              have hK1 : K ≤ 524288 := by omega
              rw [hub, hw3]
              have f10 := HS3.out.1.cells.1
              clear hub hw3 hTs
              go_upto_region 21 with fail
              clear f10 hT
              go_loopg [] K (fun k wy => ∃ i : Nat, i ≤ K ∧ K - i ≤ k ∧ Lex wy p x 0 m ∧ Blk wy rb 36 #[.int .i32 0, .int .i32 2] ∧ Blk wy ub 36 #[.int .i32 21, .int .i32 i] ∧ w.grownBy wy (some p))
              case atStart => exact ⟨0, Nat.zero_le _, Nat.le_refl _, HS3.out⟩
              case round =>
                obtain ⟨i, hiK, hik, hlx, hrb, hub, hgr⟩ := hrel
                have u0 : wr.cell? ⟨ub, 0, none⟩ = some (.int .i32 21) := hub.cell 0
                have u1 : wr.cell? ⟨ub, 1, none⟩ = some (.int .i32 i) := hub.cell 1
                have uf := hub.free
                have HI := Lib.hid (And.intro hlx (And.intro hrb (And.intro hub hgr)))
                clear hlx hrb hub hgr
                rcases (show i = K ∨ i < K by omega) with rfl | hlt
                · rcases (show i = T.size ∨ i < T.size by have := HTs.out; omega) with hie | hie
                  · have d0 : decide ((i : Int) < (T.size : Int)) = false := decide_eq_false (by omega)
                    have d0' : decide (i < T.size) = false := decide_eq_false (by omega)
                    have hile : i ≤ T.size := by omega
                    clear hie
                    have cf := HI.out.1.css.free
                    obtain ⟨_, _, _, _, g19, g20, g21, _⟩ := HI.out.1.css.cells
                    go_upto_region 23 with fail
                    go_region
                    all_goals
                      go_wp2_with fail
                      go_meet
                      have hlu := lex_url (T.extract 0 i) i HI.out.1
                      exact ⟨_, hlu.1, rfl, hst, rfl, rfl, rfl, .inl ⟨hu, url_txt HTs.out hB19 hKb HTB.out, rfl, rfl⟩, HI.out.2.1.gb hlu.2 (fun e => by cases e; omega), gb_trans HI.out.2.2.2 hlu.2⟩
                  · have eb := byteAt_get T i hie
                    have hws : isWS (byteAt T i : Int) = true := by
                      rw [HTB.out i hie]
                      rcases HC.out.2.2.2.2.2.2 with h | h
                      · have := HTs.out; omega
                      · exact h
                    obtain ⟨b, hb⟩ : ∃ b, byteAt T i = b := ⟨_, rfl⟩
                    rw [hb] at eb hws
                    have HWS := Lib.hid hws
                    have hbl : b < 256 := by rw [← hb]; exact byteAt_lt _ _
                    clear hb hws
                    have cf := HI.out.1.css.free
                    obtain ⟨_, _, _, _, g19, g20, g21, _⟩ := HI.out.1.css.cells
                    go_upto_region 23 with (go_at_call 26; refine (ws_any (b : Int) _).mono ?_; rintro e w' ⟨rfl, rfl⟩; rw [HWS.out])
                    go_region
                    all_goals
                      go_wp2_with fail
                      go_meet
                      have hlu := lex_url (T.extract 0 i) i HI.out.1
                      exact ⟨_, hlu.1, rfl, hst, rfl, rfl, rfl, .inl ⟨hu, url_txt HTs.out hB19 hKb HTB.out, rfl, rfl⟩, HI.out.2.1.gb hlu.2 (fun e => by cases e; omega), gb_trans HI.out.2.2.2 hlu.2⟩
                · have hiT : i < T.size := by have := HTs.out; omega
                  have eb := byteAt_get T i hiT
                  have hws := HC.out.2.2.2.2.2.1 i hlt
                  rw [← HTB.out i hiT] at hws
                  obtain ⟨b, hb⟩ : ∃ b, byteAt T i = b := ⟨_, rfl⟩
                  rw [hb] at eb hws
                  have HWS := Lib.hid hws
                  have hbl : b < 256 := by rw [← hb]; exact byteAt_lt _ _
                  clear hb hws
                  go_wp2_with (go_at_call 26; refine (ws_any (b : Int) _).mono ?_; rintro e w' ⟨rfl, rfl⟩; rw [HWS.out])
                  go_roundg (K - (i + 1))
                  case measure => omega
                  case rel =>
                    have hg : ∀ v, wr.grownBy (wr.setCell ⟨ub, 1, none⟩ v) (some ub) := fun v => gb_set (gb_refl _ _) 1 none v
                    have hlx := HI.out.1
                    refine ⟨i + 1, hlt, Nat.le_refl _, hlx.gb (hg _) (fun e => by cases e; omega) (fun e => by cases e; have := hlx.p1; omega) (fun e => by cases e; have := hlx.p1; omega), HI.out.2.1.gb (hg _) (fun e => by cases e; omega), ?_, ?_⟩
                    · have := HI.out.2.2.1.set 1 (.int .i32 ((i + 1 : Nat) : Int))
                      exact this
                    · exact gb_new HI.out.2.2.2 (hg _) hub0
            · subst hu2
              go_wp2_with fail
              go_meet
              exact ⟨x, HA.out.1, rfl, hst, rfl, rfl, rfl, .inr ⟨hu, rfl, rfl, rfl⟩, HA.out.2.1, HA.out.2.2⟩
          case rest =>
            obtain ⟨x1, hl1, hs1, hst1, hlg1, hal1, hra1, hu1, hrb1, hg1⟩ := hcut
            obtain ⟨ra, hra⟩ : ∃ ra, x.ra = ra := ⟨_, rfl⟩
            have HX1 := Lib.hid (And.intro hl1 (And.intro hs1 (And.intro hst1 (And.intro hlg1 (And.intro hal1 (And.intro hra1 (And.intro hu1 (And.intro hrb1 hg1))))))))
            have HRA := Lib.hid hra
            have r0 : wc.cell? ⟨rb, 0, none⟩ = some (.int .i32 0) := hrb1.cell 0
            have hmb : m ≤ 524292 := by have := HQ.out.2; omega
            clear hl1 hs1 hst1 hlg1 hal1 hra1 hu1 hrb1 hg1 hra HA HU hk
            go_upto_region 25 with fail
            obtain ⟨cb, hcb⟩ : ∃ cb, wc.heap.size = cb := ⟨_, rfl⟩
            obtain ⟨w4, hw4⟩ : ∃ w4, wc.alloc (.cells #[.int .i32 0, .int .i32 m] 36) = w4 := ⟨_, rfl⟩
            have HD : Hid (Lex w4 p x1 0 m ∧ Blk w4 rb 36 #[.int .i32 0, .int .i32 2] ∧ Blk w4 cb 36 #[.int .i32 0, .int .i32 m] ∧ w.grownBy w4 (some p)) := Lib.hid (by
              have h1 := HX1.out.1
              have h8 := HX1.out.2.2.2.2.2.2.2.1
              have h9 := HX1.out.2.2.2.2.2.2.2.2
              rw [← hw4, ← hcb]
              exact ⟨h1.alloc _, h8.alloc _, Blk.new _ _ _, gb_trans h9 (World.grownBy_alloc _ _ _)⟩)
            rw [hcb, hw4]
            clear hcb hw4 r0
            have g0 : w4.cell? ⟨p, 0, none⟩ = some (.bool ra) := by
              have := HD.out.1.css.cells.1
              rw [← HRA.out, ← HX1.out.2.2.2.2.2.1]
              exact this
            go_upto_if 118 with fail
            go_cut [] from 37 to 185 (fun wx => ∃ x2 : Lx, Lex wx p x2 0 m ∧ x2.s = x.s ∧ x2.st = 0 ∧ x2.lg = x.lg ∧ UrlV bd x K x2 ∧ AlV wx m x x2 ∧ Blk wx rb 36 #[.int .i32 0, .int .i32 2] ∧ w.grownBy wx (some p))
            case first =>
              rcases ra with _ | _
              · go_wp2_with fail
                go_meet
                obtain ⟨a1, a2, a3, a4, a5, a6, a7, a8, a9⟩ := HX1.out
                exact ⟨x1, HD.out.1, a2, a3, a4, a7, .inr ⟨HRA.out, a5⟩, HD.out.2.1, HD.out.2.2.2⟩
              · have g17 : w4.cell? ⟨p, 17, none⟩ = some (.slice none 0 0) := by
                  have := HD.out.1.css.cells.2.2.1
                  rw [← HC.out.2.2.2.1, ← HX1.out.2.2.2.2.1]
                  exact this
                have e0 : w4.cell? ⟨cb, 0, none⟩ = some (.int .i32 0) := HD.out.2.2.1.cell 0
                have e1 : w4.cell? ⟨cb, 1, none⟩ = some (.int .i32 m) := HD.out.2.2.1.cell 1
                have hpl := HD.out.1.lt
                have hcl := HD.out.2.2.1.lt
                have HK6 : Hid (∀ (o : Obj) (w' : World), (w4.drew.alloc o).grownBy w' none → Lex w' p x1 0 m ∧ Blk w' rb 36 #[.int .i32 0, .int .i32 2] ∧ w.grownBy w' (some p)) := Lib.hid (fun o w' hg => by
                  have k1 : Lex (w4.drew.alloc o) p x1 0 m := HD.out.1.drew.alloc o
                  have k2 : Blk (w4.drew.alloc o) rb 36 #[.int .i32 0, .int .i32 2] := HD.out.2.1.drew.alloc o
                  have k3 : w.grownBy (w4.drew.alloc o) (some p) := gb_trans HD.out.2.2.2 (gb_trans (show w4.grownBy w4.drew (some p) from ⟨rfl, rfl, rfl, Nat.le_refl _, fun _ _ _ => rfl⟩) (World.grownBy_alloc _ _ _))
                  exact ⟨k1.gb hg (by simp) (by simp) (by simp), k2.gb hg (by simp), ⟨hg.os.trans k3.os, hg.tape.trans k3.tape, hg.output.trans k3.output, Nat.le_trans k3.size hg.size, fun i hi hne => (hg.block i (Nat.lt_of_lt_of_le hi k3.size) (by simp)).trans (k3.block i hi hne)⟩⟩)
                go_upto_region 26 with fail
                go_region_law (refine step_pushR (by rfl) (.tmp 123) (.tmp 125) 69 rfl Tryd.underlying69 info36 0 m (by simp [Act.eval]) w4.heap.size (by simp [Act.eval]) (Blk.new w4.drew 36 _) ?_; intro g' cap w6 hgl hgs hc0 hc1 hgr; have H6 := Lib.hid (And.intro (HK6.out _ _ hgr) (And.intro hgl (And.intro hgs (And.intro hc0 hc1)))); have s1 := H6.out.1.1.css.cells.2.2.1; have s2 := H6.out.1.1.css.free; clear hgl hgs hc0 hc1 hgr)
                all_goals
                  go_wp2_with fail
                  go_meet
                  obtain ⟨a1, a2, a3, a4, a5, a6, a7, a8, a9⟩ := HX1.out
                  have hla := lex_al (Value.slice (some ⟨g', 0, none⟩) 1 cap) H6.out.1.1
                  have hpg : p < g' := by have h1 := HD.out.1.lt; have h2 := H6.out.2.1; simp at h2; omega
                  exact ⟨_, hla.1, a2, a3, a4, a7, .inl ⟨HRA.out, g', cap, rfl, (gb_cell hla.2 (p := ⟨g', 0, none⟩) (fun e => by have e2 : g' = p := Option.some.inj e; omega) H6.out.2.2.1).trans H6.out.2.2.2.1, (gb_cell hla.2 (p := ⟨g', 1, none⟩) (fun e => by have e2 : g' = p := Option.some.inj e; omega) H6.out.2.2.1).trans H6.out.2.2.2.2⟩, H6.out.1.2.1.gb hla.2 (fun e => by cases e; omega), gb_trans H6.out.1.2.2 hla.2⟩
            case rest =>
              obtain ⟨x2, hl2, hs2, hst2, hlg2, hu2, ha2, hrb2, hg2⟩ := hcut
              have f10 : wc.cell? ⟨p, 10, none⟩ = some (.string x.s) := by rw [← hs2]; exact hl2.cells.1
              have r0 : wc.cell? ⟨rb, 0, none⟩ = some (.int .i32 0) := hrb2.cell 0
              have HX2 := Lib.hid (And.intro hl2 (And.intro hs2 (And.intro hst2 (And.intro hlg2 (And.intro hu2 (And.intro ha2 hg2))))))
              have hms : m ≤ x.s.size := by have := HQ.out.2; omega
              have hnl : ∀ P : ByteArray, 1 ≤ P.size → (∀ j, j < P.size → byteAt P j ≠ 42 ∧ byteAt P j ≠ 47) → ¬ Has bd P → ¬ Has (x.s.extract 0 m) P := by
                rintro P hP hne hno ⟨i, hi1, hi2⟩
                have hz : (x.s.extract 0 m).size = m := by simp; omega
                have hm := HQ.out.2
                refine hno ⟨_, (HC.out.1.inside P hP hne (i := i) (by omega) (fun j hj => ?_)).2⟩
                rw [← hi2 j hj, byteAt_ext x.s 0 m (i + j) hms (by omega), Nat.zero_add]
              have HCA : Hid (∀ w', Calls Tryd.prog 27 #[.string (x.s.extract 0 m)] w' fun e w'' => e = .returned (.bool false) ∧ Below w'.heap.size w' w'') := Lib.hid (fun w' => cal_any _ w' (by simp; omega) (hnl sPre (by decide) sPre_ne HC.out.2.2.1.2.1) (hnl sLic (by decide) sLic_ne HC.out.2.2.1.2.2))
              clear hl2 hs2 hst2 hlg2 hu2 ha2 hrb2 hg2 hnl HD HX1
              go_upto_region 27 with fail
              go_quiet (fail)
              clear f10 r0
              go_wp2_with (go_at_call 27; refine (HCA.out _).mono ?_; rintro e w8 ⟨rfl, hb8⟩; have H8 := Lib.hid hb8; clear hb8)
              go_end0
              obtain ⟨b1, b2, b3, b4, b5, b6, b7⟩ := HX2.out
              have h8 : Below wc.heap.size wc w8 := (show Below wc.heap.size wc (wc.drewN _) from ⟨rfl, rfl, rfl, Nat.le_refl _, fun _ _ => rfl⟩).trans H8.out
              have hm := HQ.out.2
              subst hm
              exact ⟨rfl, x2, b1.kept h8, b2, b3, b4, b5, alv_kept b6 h8, gb_trans b7 (gb_of_below (some p) h8)⟩
        · have h47 := HC.out.1.mid HC.out.2.1 hq2 hlt2 h42
          rw [hq1] at h47
          obtain ⟨v2, hv2⟩ : ∃ v2, (decAt x.s q1).1 = v2 := ⟨_, rfl⟩
          have hv47 : (v2 == 47) = false := beq_eq_false_iff_ne.2 (fun e => h47 (by have := (decAt_small x.s q1 (hv2.trans e) (by decide) (by decide)).2.1; omega))
          have HV2 := Lib.hid hv2
          clear hv2 h47 h42 hd1 hd2
          go_wp2_with (go_at_call 21; refine HST.out.mono ?_; rintro e w1 ⟨rfl, hl1, hg1⟩; have e35 := hl1.cells.2.2.1; rw [HV2.out] at e35; have H1 := Lib.hid (And.intro hl1 hg1); clear hl1 hg1)
          go_roundg (bd.size + 2 - q1)
          case measure => omega
          case rel => exact ⟨q1, by omega, by omega, Nat.le_refl _, H1.out.1, HR.out.1.gb H1.out.2 (fun e => by cases e; omega), gb_trans HR.out.2 H1.out.2⟩
      · obtain ⟨v, hv⟩ : ∃ v, (decAt x.s q).1 = v := ⟨_, rfl⟩
        obtain ⟨W1, hW1⟩ : ∃ W1, (decAt x.s q).2 = W1 := ⟨_, rfl⟩
        have hne : q ≠ bd.size + 2 := fun e => h42 (by rw [e]; exact HC.out.1.e0)
        have hcr : q + (decAt x.s q).2 ≤ bd.size + 2 := no_cross (s := x.s) hqB (by omega) (by rw [HC.out.1.e0]; omega) hne
        have hpos := decAt_pos x.s q (by omega)
        have hv42 : (v == 42) = false := beq_eq_false_iff_ne.2 (fun e => h42 (by have := (decAt_small x.s q (hv.trans e) (by decide) (by decide)).2.1; omega))
        have hv1 : (v == -1) = false := beq_eq_false_iff_ne.2 (fun e => by
          rcases decAt_cases x.s q with ⟨h, _⟩ | ⟨_, _, h⟩ | ⟨_, _, h⟩
          · omega
          · rw [h] at hv; simp only at hv; omega
          · rw [hv] at h; omega)
        rw [hv] at d35
        rw [hW1] at hcr hpos
        have HST := Lib.hid (lex_step p x 0 q wr hlx)
        have HR := Lib.hid (And.intro hrb hgr)
        have HW1 := Lib.hid hW1
        clear hlx hrb hgr hv hW1 d10 d33
        go_wp2_with (go_at_call 21; refine HST.out.mono ?_; rintro e w1 ⟨rfl, hl1, hg1⟩; have H1 := Lib.hid (And.intro hl1 hg1); clear hl1 hg1)
        go_roundg (bd.size + 2 - (q + W1))
        case measure => omega
        case rel =>
          have h1 := H1.out
          rw [HW1.out] at h1
          exact ⟨q + W1, by omega, hcr, Nat.le_refl _, h1.1, HR.out.1.gb h1.2 (fun e => by cases e; omega), gb_trans HR.out.2 h1.2⟩
end Go.Proofs.YtfpiokpdpdokjaaDoor
