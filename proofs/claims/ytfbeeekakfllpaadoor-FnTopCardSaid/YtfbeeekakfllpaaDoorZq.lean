/-
  strings.Builder with the frame above it; WriteRune; zzQuote. No statement of the seat is proved here.
-/
import Derived.Test.YtfbeeekakfllpaaDoorSb
import Derived.Test.YtfbeeekakfllpaaDoorIq
import Derived.Lib.BufferKept
namespace Go.Proofs.YtfbeeekakfllpaaDoor
open Go.RowKit
set_option linter.unusedVariables false
set_option linter.unusedSimpArgs false
abbrev Oth (b : Nat) (w w' : World) : Prop := Lib.OthersKept 5 (some b) w w'
theorem cc_o (B b : Nat) (bs : List Value) (w : World) (h : IsB B b bs w) : Calls Tryd.prog 25 #[me b] w fun e w' => e = .returned (.tuple #[]) ∧ BAt B b (me b) bs w' ∧ Below B w w' ∧ Oth b w w' := by
  rcases h with h | h
  · refine (cc_fresh b w h.cell0 h.shape h.frozen0).mono ?_
    rintro e w' ⟨rfl, rfl⟩
    exact ⟨rfl, h.used _, (Below.refl B w).setCell (p := ⟨b, 0, none⟩) h.1 _, (Lib.OthersKept.refl 5 _ w).setCell ⟨b, 0, none⟩ rfl _⟩
  · refine (cc_used b w h.cell0).mono ?_
    rintro e w' ⟨rfl, rfl⟩
    exact ⟨rfl, h, Below.refl B _, Lib.OthersKept.refl 5 _ _⟩
theorem row_of {B : Nat} {w : World} {v : Value} {n : Nat} {xs : List Value} (h : w.ownsRow B 5 1 v n xs) : ∀ g, v.ownBlock = some g → ∃ c fz, w.heap[g]? = some (.cells c 5 fz) := by
  intro g hg
  rcases h.2 with ⟨rfl, _⟩ | ⟨g', cap, cur, rfl, hB, hh, _⟩
  · cases hg
  · cases hg; exact ⟨cur, _, hh⟩
set_option maxRecDepth 100000 in
theorem ws_o (B b : Nat) (bs : List Value) (s : ByteArray) (w : World) (h : IsB B b bs w) (hlen : bs.length + s.size ≤ 1073741824) (hBw : B ≤ w.heap.size) :
    Calls Tryd.prog 7 #[me b, .string s] w fun e w' => e = .returned (.tuple #[.int .i64 s.size, .nilIface]) ∧ BAt B b (me b) (bs ++ Lib.strCells s) w' ∧ Below B w w' ∧ Oth b w w' := by
  obtain ⟨i0, hi, hz0, hz1, hz2⟩ := info_parts infoB
  go_enter Tryd.func7, Tryd.ntmps7
  go_wp2_with (go_at_call 25; refine (cc_o B b bs _ h).mono ?_)
  rintro e w1 ⟨rfl, h1, hb1, ho1⟩
  obtain ⟨hB, v, hbk, hown, hne⟩ := h1
  have c1 : w1.cell? ⟨b, 1, none⟩ = some v := by rw [Lib.cell_of_heap hbk]; rfl
  go_wp2_with (at_builtin; refine Lib.wpList_append_own_string _ rfl _ _ 22 9 rfl B 5 i0 Tryd.underlying22 Tryd.underlying9 hi hz0 hz1 hz2 _ _ _ rfl hown s rfl (by unfold maxLen; omega) (by omega) (by have := hb1.size; omega) ?_)
  intro v' w2 hown' hgrow _
  have hb2 : w2.heap[b]? = some (.cells #[me b, v] 46 (0, 0)) := by
    rw [hgrow.block b (blt hbk) (fun e => hne e.symm)]
    exact hbk
  have d1 : w2.cell? ⟨b, 1, none⟩ = some v := by rw [Lib.cell_of_heap hb2]; rfl
  have f1 : w2.frozen? ⟨b, 1, none⟩ = false := Lib.frozen_of_heap hb2 1
  have ho2 := (ho1.grown hgrow (row_of hown)).setCell ⟨b, 1, none⟩ rfl v'
  obtain ⟨ao, cap, rfl⟩ := own_form hown'
  go_wp2
  go_ret2
  refine ⟨rfl, ?_, ?_, ho2⟩
  · exact Lib.BuilderAt.put (T := 46) (e := 5) hB hb2 (bs' := bs ++ Lib.strCells s) (by simpa [Lib.strCells_length] using hown') (by decide)
  · exact (hb1.grown hgrow (by have := hb1.size; omega) (fun k hk => (hown.lt k hk).1)).setCell (p := ⟨b, 1, none⟩) hB _
set_option maxRecDepth 100000 in
theorem wb_o (B b : Nat) (bs : List Value) (c : Int) (w : World) (h : IsB B b bs w) (hlen : bs.length + 1 ≤ 1073741824) (hBw : B ≤ w.heap.size) :
    Calls Tryd.prog 32 #[me b, .int .u8 c] w fun e w' => e = .returned .nilIface ∧ BAt B b (me b) (bs ++ [.int .u8 c]) w' ∧ Below B w w' ∧ Oth b w w' := by
  obtain ⟨i0, hi, hz0, hz1, hz2⟩ := info_parts infoB
  go_enter Tryd.func32, Tryd.ntmps32
  go_wp2_with (go_at_call 25; refine (cc_o B b bs _ h).mono ?_)
  rintro e w1 ⟨rfl, h1, hb1, ho1⟩
  obtain ⟨hB, v, hbk, hown, hne⟩ := h1
  have c1 : w1.cell? ⟨b, 1, none⟩ = some v := by rw [Lib.cell_of_heap hbk]; rfl
  go_wp2_with (at_builtin; refine wpList_append_own _ rfl _ _ 22 rfl B 5 i0 (.int .u8 0) 1 1 Tryd.underlying22 hi hz0 hz1 hz2 rfl (by decide) _ _ _ rfl (hown.alloc _) ⟨w1.heap.size, 0, none⟩ 1 1 [.int .u8 c] rfl rfl ?c1 ?c2 ?c3 ?c4 ?c5 ?_)
  case c1 =>
    intro j u hj
    match j, hj with
    | 0, hj => simp at hj; subst hj; simp [Addr.add]
  case c2 => intro u hu; simp at hu; subst hu; rfl
  case c3 => unfold maxLen; omega
  case c4 => omega
  case c5 => have := hb1.size; simp; omega
  intro v' w2 hown' hgrow _
  have hb2 : w2.heap[b]? = some (.cells #[me b, v] 46 (0, 0)) := by
    rw [hgrow.block b (by have := blt hbk; simp; omega) (fun e => hne e.symm), Lib.alloc_old w1 _ b (blt hbk)]
    exact hbk
  have d1 : w2.cell? ⟨b, 1, none⟩ = some v := by rw [Lib.cell_of_heap hb2]; rfl
  have f1 : w2.frozen? ⟨b, 1, none⟩ = false := Lib.frozen_of_heap hb2 1
  have ho2 := ((ho1.alloc (.cells #[.int .u8 c] 5)).grown hgrow (row_of (hown.alloc _))).setCell ⟨b, 1, none⟩ rfl v'
  obtain ⟨ao, cap, rfl⟩ := own_form hown'
  go_wp2
  go_ret
  refine ⟨rfl, ?_, ?_, ho2⟩
  · exact Lib.BuilderAt.put (T := 46) (e := 5) hB hb2 (bs' := bs ++ [.int .u8 c]) (by simpa using hown') (by decide)
  · exact ((hb1.alloc (by have := hb1.size; omega) _).grown hgrow (by have := hb1.size; simp; omega) (fun k hk => (hown.lt k hk).1)).setCell (p := ⟨b, 1, none⟩) hB _
set_option maxRecDepth 100000 in
set_option maxHeartbeats 1000000 in
theorem wr_o (B b : Nat) (bs : List Value) (c : Int) (w : World) (h : IsB B b bs w) (hc0 : 0 ≤ c) (hc1 : c ≤ 255) (hlen : bs.length ≤ 1073741824) (hBw : B ≤ w.heap.size) (hrl : (Lib.runeCells c).length ≤ 4) :
    Calls Tryd.prog 33 #[me b, .int .i32 c] w fun e w' => (∃ x, e = .returned (.tuple #[x, .nilIface])) ∧ BAt B b (me b) (bs ++ Lib.runeCells c) w' ∧ Below B w w' ∧ Oth b w w' := by
  go_enter Tryd.func33, Tryd.ntmps33
  go_wp2_with (go_at_call 25; refine (cc_o B b bs _ h).mono ?_)
  rintro e w1 ⟨rfl, h1, hb1, ho1⟩
  obtain ⟨hB, v, hbk, hown, hne⟩ := h1
  have c1 : w1.cell? ⟨b, 1, none⟩ = some v := by rw [Lib.cell_of_heap hbk]; rfl
  obtain ⟨ao0, cap0, rfl⟩ := own_form hown
  have hbl := blt hbk
  have HF : Hid (∀ (w2 : World) (o : Obj), (w1.alloc o).grownBy w2 (Value.slice ao0 bs.length cap0).ownBlock → w2.heap[b]? = some (.cells #[me b, .slice ao0 bs.length cap0] 46 (0, 0))) := Lib.hid (fun w2 o hg => by
    rw [hg.block b (by simp; omega) (fun e => hne e.symm), Lib.alloc_old w1 _ b hbl]
    exact hbk)
  have HW := Lib.hid (And.intro hown (And.intro hb1 (And.intro ho1 hB)))
  clear hbk hown hne
  go_wp2_with (go_at_call 40; (refine (Tryd.utf8_AppendRune_plain B _ _ _ c (by omega) (by omega) _ HW.out.1 (by omega) (by have := hb1.size; omega)).mono ?_; rintro e w2 ⟨v', rfl, hown', o, hgrow⟩; have hb2 := HF.out _ _ hgrow; have HX := Lib.hid (And.intro hown' (And.intro hgrow hb2)); have d1 : w2.cell? ⟨b, 1, none⟩ = some (.slice ao0 bs.length cap0) := Lib.cell_of_heap hb2 1; have f1 := Lib.frozen_of_heap hb2 1; have hl2 := blt hb2; obtain ⟨ao, cap, hvv⟩ := own_form hown'; subst hvv; clear hown' hgrow hb2))
  go_ret2
  refine ⟨⟨_, rfl⟩, ?_, ?_, ?_⟩
  · exact Lib.BuilderAt.put (T := 46) (e := 5) HW.out.2.2.2 HX.out.2.2 (bs' := bs ++ Lib.runeCells c) (by simpa using HX.out.1) (by decide)
  · exact ((HW.out.2.1.alloc (by have := HW.out.2.1.size; omega) _).grown HX.out.2.1 (by have := HW.out.2.1.size; simp; omega) (fun k hk => (HW.out.1.lt k hk).1)).setCell (p := ⟨b, 1, none⟩) HW.out.2.2.2 _
  · exact ((HW.out.2.2.1.alloc o).grown HX.out.2.1 (row_of (HW.out.1.alloc _))).setCell ⟨b, 1, none⟩ rfl _
theorem qr_range (s : ByteArray) (asc : Bool) (k : Nat) : ∀ z ∈ qr s asc k, 0 ≤ z ∧ z < 256 := by
  intro z hz
  unfold qr at hz
  split at hz
  · simp at hz; omega
  · split at hz
    · simp at hz; omega
    · split at hz
      · simp at hz; omega
      · simp only [List.mem_map] at hz
        obtain ⟨j, _, rfl⟩ := hz
        have := byteAt_lt s (k + j); omega
theorem qt_range (s : ByteArray) (asc : Bool) : ∀ z ∈ qt s asc, 0 ≤ z ∧ z < 256 := by
  have key : ∀ k, ∀ z ∈ qx s asc k, 0 ≤ z ∧ z < 256 := by
    intro k
    induction k with
    | zero => intro z hz; simp [qx] at hz
    | succ k ih =>
      intro z hz
      rw [qx] at hz
      split at hz
      · rw [List.mem_append] at hz
        rcases hz with h | h
        · exact ih z h
        · exact qr_range s asc k z h
      · exact ih z hz
  intro z hz
  unfold qt at hz
  rw [List.mem_cons, List.mem_append, List.mem_singleton] at hz
  rcases hz with rfl | h | rfl
  · omega
  · exact key _ z h
  · omega
/-- the quoted name -/
def ql (s : ByteArray) (asc : Bool) : List UInt8 := (qt s asc).map fun z => z.toNat.toUInt8
def qs (s : ByteArray) (asc : Bool) : ByteArray := ⟨(ql s asc).toArray⟩
theorem u8_back {z : Int} (h : 0 ≤ z ∧ z < 256) : ((z.toNat.toUInt8).toNat : Int) = z := by
  obtain ⟨n, rfl⟩ := Int.eq_ofNat_of_zero_le h.1
  have hn : n < 256 := by omega
  simp only [Int.toNat_natCast]
  rw [show (n.toUInt8).toNat = n % 256 from rfl, Nat.mod_eq_of_lt hn]
theorem cells_ql (s : ByteArray) (asc : Bool) : Lib.byteCells (ql s asc) = row .u8 (qt s asc) := by
  unfold Lib.byteCells ql row
  rw [List.map_map]
  apply List.map_congr_left
  intro z hz
  simp only [Function.comp]
  exact congrArg (Value.int .u8) (u8_back (qt_range s asc z hz))
theorem run_cells (s : ByteArray) (i : Nat) (h : RC s i) (asc : Bool) (hp : prn s asc i = true) : Lib.runeCells (cpt s i : Nat) = row .u8 (qr s asc i) := by
  rw [qr_prn hp]
  rcases h with ⟨h0, h1, h2, h3⟩ | ⟨h0, h1, h2, h3, h4⟩
  · rw [h2]
    unfold Lib.runeCells
    rw [Lib.encodeRuneZ_one (by omega) (by omega)]
    simp [row, h3]
  · rw [h0, h1]
    simp only [row, List.range_succ, List.range_zero, List.nil_append, List.map_append, List.map_cons, List.map_nil, Nat.add_zero, h3, h4]
    rfl
theorem cells233 : Lib.runeCells 233 = [Value.int .u8 195, Value.int .u8 169] := by kernel_rfl
theorem IsB.it {B b r : Nat} {bs : List Value} {w w' : World} {s : ByteArray} {pos : Nat} (h : IsB B b bs w) (hr : It w r s pos) (hg : w.grownBy w' (some r)) : IsB B b bs w' := by
  have key : ∀ p, BAt B b p bs w → BAt B b p bs w' := by
    rintro p ⟨hB, v, hb, hown, hne⟩
    have hbr : b ≠ r := fun e => by rw [e, show w.heap[r]? = _ from hr] at hb; cases hb
    refine ⟨hB, v, (hg.block b (blt hb) (fun e => hbr (Option.some.inj e))).trans hb, hown.kept hg (.inr (fun e => ?_)), hne⟩
    obtain ⟨c, fz, hc⟩ := row_of hown r e
    rw [show w.heap[r]? = _ from hr] at hc
    cases hc
  exact h.imp (key _) (key _)
theorem IsB.gbn {B b : Nat} {bs : List Value} {w w' : World} (h : IsB B b bs w) (hg : w.grownBy w' none) : IsB B b bs w' := by
  have key : ∀ p, BAt B b p bs w → BAt B b p bs w' := by
    rintro p ⟨hB, v, hb, hown, hne⟩
    exact ⟨hB, v, (hg.block b (blt hb) (by simp)).trans hb, hown.kept hg (Classical.em _), hne⟩
  exact h.imp (key _) (key _)
theorem It.oth {b r : Nat} {w w' : World} {s : ByteArray} {pos : Nat} (h : It w r s pos) (hb : r ≠ b) (ho : Oth b w w') : It w' r s pos :=
  ho r _ h (fun e => hb (Option.some.inj e)) (fun c fz e => by cases e)
theorem qx_le (s : ByteArray) (asc : Bool) (i : Nat) (h : i ≤ s.size) : (qx s asc i).length ≤ i * (6 + s.size) := by
  induction i with
  | zero => simp [qx]
  | succ i ih =>
    have h1 := ih (by omega)
    rw [qx]
    split
    · have := qr_len s asc i (by omega)
      have := wd_le s i (by omega)
      rw [List.length_append, Nat.succ_mul]; omega
    · rw [Nat.succ_mul]; omega
def IsZq (s : ByteArray) (asc : Bool) (w : World) (e : Ending) (w' : World) : Prop := e = .returned (.string (qs s asc)) ∧ Below w.heap.size w w'
structure Gz (s : ByteArray) (asc : Bool) (w : World) (b r i : Nat) (wr : World) : Prop where
  it : It wr r s i
  ib : IsB w.heap.size b (row .u8 (34 :: qx s asc i)) wr
  bel : Below w.heap.size w wr
theorem Gz.put {s : ByteArray} {asc : Bool} {w : World} {b r i j j2 : Nat} {wr2 w' : World} {xs : List Value} {ys : List Int} (h : It wr2 r s j) (hbel : Below w.heap.size w wr2) (hb : BAt w.heap.size b (me b) (row .u8 (34 :: qx s asc i) ++ xs) w') (hB : Below w.heap.size wr2 w') (ho : Oth b wr2 w') (hr : r ≠ b) (hx : xs = row .u8 ys) (hy : qx s asc j2 = qx s asc i ++ ys) (hj : j2 = j) : Gz s asc w b r j2 w' := by
  subst hj
  refine ⟨h.oth hr ho, .inr ?_, hbel.trans hB⟩
  rw [hx, ← row_app] at hb
  rw [hy]
  exact hb
set_option maxRecDepth 100000 in
set_option maxHeartbeats 4000000 in
theorem zq_any (s : ByteArray) (asc : Bool) (w : World) (hs : Nmc s) (hz : s.size ≤ 1000) : Calls Tryd.prog 21 #[.string s, .bool asc] w (IsZq s asc w) := by
  have HS := Lib.hid hs
  clear hs
  obtain ⟨b, hb⟩ : ∃ b, w.heap.size = b := ⟨_, rfl⟩
  have HI0 : Hid (IsB w.heap.size b [] (w.alloc (.cells #[.pointer none, .slice none 0 0] 46)) ∧ Below w.heap.size w (w.alloc (.cells #[.pointer none, .slice none 0 0] 46))) := Lib.hid ⟨.inl ⟨by omega, _, by rw [← hb]; exact blk_new w _, World.ownsRow_nil _ _ _ _, by simp [Value.ownBlock]⟩, (Below.refl _ w).alloc (Nat.le_refl _) _⟩
  have HB := Lib.hid hb
  go_enter Tryd.func21, Tryd.ntmps21
  clear hb
  go_upto_region 2 with fail
  rw [HB.out]
  go_upto_region 3 with (go_at_call 32; (refine (wb_o w.heap.size b [] 34 _ HI0.out.1 (by simp) (by simp)).mono ?_; rintro e w1 ⟨rfl, hb1, hB1, hO1⟩; have H1 : Hid (IsB w.heap.size b (row .u8 (34 :: qx s asc 0)) w1 ∧ Below w.heap.size w w1 ∧ b < w1.heap.size) := Lib.hid ⟨.inr hb1, HI0.out.2.trans hB1, hb1.lt⟩; clear hb1 hB1 hO1))
  go_wp2_with fail
  obtain ⟨r, hr⟩ : ∃ r, w1.heap.size = r := ⟨_, rfl⟩
  have HR := Lib.hid hr
  rw [hr]
  clear hr
  go_loopg [] s.size (fun k wr => ∃ i : Nat, Bd s i ∧ s.size - i ≤ k ∧ Hid (Gz s asc w b r i wr))
  case atStart =>
    have hrr := HR.out
    exact ⟨0, Bd.zero s, by omega, Lib.hid ⟨by rw [← hrr]; exact It.new w1 s, H1.out.1.gbn (World.grownBy_alloc _ _ _), H1.out.2.1.alloc H1.out.2.1.size _⟩⟩
  case round =>
    obtain ⟨i, hbd, hk, HG⟩ := hrel
    have hiz := hbd.le
    have hrb : r ≠ b := by have := H1.out.2.2; have := HR.out; omega
    have hqx := qx_le s asc i hiz
    have HLN : Hid ((row .u8 (34 :: qx s asc i)).length ≤ 1006001) := Lib.hid (by have := Nat.mul_le_mul hiz (Nat.le_refl (6 + s.size)); have := Nat.mul_le_mul hz (show 6 + s.size ≤ 1006 by omega); simp [row]; omega)
    have HBD := Lib.hid hbd
    clear hbd hqx
    rcases (show i = s.size ∨ i < s.size by omega) with rfl | hlt
    · have HFN : Hid (row .u8 (34 :: qx s asc s.size) ++ [Value.int .u8 34] = Lib.byteCells (ql s asc)) := Lib.hid (by rw [cells_ql]; simp [row, qt])
      go_upto_region 13 with (refine wpList_next_end rfl _ rfl r s s.size rfl HG.out.it (Nat.lt_irrefl _) ?_)
      go_wp2_with (first
        | (go_at_call 32; (refine (wb_o w.heap.size b _ 34 _ HG.out.ib (by have := HLN.out; omega) HG.out.bel.size).mono ?_; rintro e w5 ⟨rfl, hb5, hB5, hO5⟩; rw [HFN.out] at hb5; have H5 := Lib.hid (And.intro hb5 hB5); clear hb5 hB5 hO5))
        | (go_at_call 9; (refine (Tryd.Builder_String_any w.heap.size b (ql s asc) _ (.inr H5.out.1) (Nat.le_trans HG.out.bel.size H5.out.2.size)).mono ?_; rintro e w6 ⟨rfl, hB6⟩; have H6 := Lib.hid hB6; clear hB6)))
      go_ret
      exact ⟨rfl, HG.out.bel.trans (H5.out.2.trans H6.out)⟩
    · go_upto_region 5 with (refine wpList_next_at rfl _ rfl r s i rfl HG.out.it hlt ?_; intro w2 hit2 hg2)
      have hcp : (Utf8.decode s i).1 = cpt s i := rfl
      have hnx : i + (Utf8.decode s i).2 = i + wd s i := rfl
      rw [hcp]
      rw [hnx] at hit2
      clear hcp hnx
      have hrc := HS.out i hlt HBD.out.at_
      have hwp := wd_pos s i hlt
      have hwl := wd_le s i hlt
      have hqn := qx_next s asc i HBD.out.at_ hlt
      have HX : Hid (Bd s (i + wd s i) ∧ It w2 r s (i + wd s i) ∧ Below w.heap.size w w2 ∧ IsB w.heap.size b (row .u8 (34 :: qx s asc i)) w2 ∧ w.heap.size ≤ w2.heap.size) := Lib.hid (by
        have hbel := HG.out.bel.grown hg2 HG.out.bel.size (fun g e => by cases e; have := HR.out; have := H1.out.2.1.size; omega)
        exact ⟨HBD.out.next hlt, hit2, hbel, HG.out.ib.it HG.out.it hg2, hbel.size⟩)
      have HQN := Lib.hid hqn
      have hcl : cpt s i ≤ 233 := by rcases hrc with h | h <;> omega
      have HRC := Lib.hid hrc
      clear hit2 hg2 hqn hrc
      by_cases hp : prn s asc i = true
      · have hrcell := run_cells s i HRC.out asc hp
        have hrl : (Lib.runeCells (cpt s i : Nat)).length ≤ 4 := by
          rw [hrcell, qr_prn hp]; simp [row]; rcases HRC.out with h | h <;> omega
        have HP := Lib.hid (And.intro hrcell hrl)
        have q34 : ((cpt s i : Int) == 34) = false := beq_eq_false_iff_ne.2 (by have := (of_decide_eq_true hp).1; omega)
        have q92 : ((cpt s i : Int) == 92) = false := beq_eq_false_iff_ne.2 (by have := (of_decide_eq_true hp).2.1; omega)
        have h233 : (((cpt s i : Int) == 233) = false) ∨ (((cpt s i : Int) == 233) = true ∧ asc = false) := by
          by_cases h : cpt s i = 233
          · right
            refine ⟨by rw [h]; rfl, ?_⟩
            cases ha : asc with
            | false => rfl
            | true => exact absurd ⟨h, ha⟩ (of_decide_eq_true hp).2.2
          · left; exact beq_eq_false_iff_ne.2 (by omega)
        clear hp hrcell hrl
        have hGz : ∀ w5, BAt w.heap.size b (me b) (row .u8 (34 :: qx s asc i) ++ Lib.runeCells (cpt s i : Nat)) w5 → Below w.heap.size w2 w5 → Oth b w2 w5 → Gz s asc w b r (i + wd s i) w5 := fun w5 a1 a2 a3 => Gz.put HX.out.2.1 HX.out.2.2.1 a1 a2 a3 hrb HP.out.1 HQN.out rfl
        have HGz := Lib.hid hGz
        clear hGz
        rcases h233 with h233 | ⟨h233, rfl⟩
        all_goals
          go_wp2_with (go_at_call 33; (refine (wr_o w.heap.size b _ (cpt s i : Nat) _ HX.out.2.2.2.1 (by omega) (by omega) (by have := HLN.out; omega) HX.out.2.2.2.2 HP.out.2).mono ?_; rintro e w5 ⟨⟨x, rfl⟩, hb5, hB5, hO5⟩; have H5 := Lib.hid (HGz.out w5 hb5 hB5 hO5); clear hb5 hB5 hO5))
          go_roundg (s.size - (i + wd s i))
          case measure => omega
          case rel => exact ⟨i + wd s i, HX.out.1, Nat.le_refl _, H5⟩
      · have hc3 : (cpt s i = 34 ∧ qr s asc i = [92, 34]) ∨ (cpt s i = 92 ∧ qr s asc i = [92, 92]) ∨ (cpt s i = 233 ∧ asc = true ∧ qr s asc i = [92, 117, 48, 48, 69, 57]) := by
          by_cases h1 : cpt s i = 34
          · exact .inl ⟨h1, by unfold qr; rw [if_pos h1]⟩
          · by_cases h2 : cpt s i = 92
            · exact .inr (.inl ⟨h2, by unfold qr; rw [if_neg h1, if_pos h2]⟩)
            · right; right
              have h3 : cpt s i = 233 ∧ asc = true := by
                by_cases h : cpt s i = 233 ∧ asc = true
                · exact h
                · exact absurd (by unfold prn; simp only [decide_eq_true_eq]; exact ⟨h1, h2, h⟩) hp
              exact ⟨h3.1, h3.2, by unfold qr; rw [if_neg h1, if_neg h2, if_pos h3]⟩
        clear hp
        have hGz : ∀ (st : ByteArray) (ys : List Int) w5, qr s asc i = ys → Lib.strCells st = row .u8 ys → BAt w.heap.size b (me b) (row .u8 (34 :: qx s asc i) ++ Lib.strCells st) w5 → Below w.heap.size w2 w5 → Oth b w2 w5 → Gz s asc w b r (i + wd s i) w5 := fun st ys w5 h1 h2 a1 a2 a3 => Gz.put HX.out.2.1 HX.out.2.2.1 a1 a2 a3 hrb h2 (by rw [← h1]; exact HQN.out) rfl
        have HGz := Lib.hid hGz
        clear hGz
        rcases hc3 with ⟨hc, hq⟩ | ⟨hc, hq⟩ | ⟨hc, rfl, hq⟩
        · rw [hc]
          have HQ := Lib.hid hq
          clear hc hq hcl
          go_wp2_with (go_at_call 7; (refine (ws_o w.heap.size b _ ⟨#[92, 34]⟩ _ HX.out.2.2.2.1 (by have := HLN.out; have : (⟨#[92, 34]⟩ : ByteArray).size = 2 := rfl; omega) HX.out.2.2.2.2).mono ?_; rintro e w5 ⟨rfl, hb5, hB5, hO5⟩; have H5 := Lib.hid (HGz.out _ _ w5 HQ.out rfl hb5 hB5 hO5); clear hb5 hB5 hO5))
          go_roundg (s.size - (i + wd s i))
          case measure => omega
          case rel => exact ⟨i + wd s i, HX.out.1, Nat.le_refl _, H5⟩
        · rw [hc]
          have HQ := Lib.hid hq
          clear hc hq hcl
          go_wp2_with (go_at_call 7; (refine (ws_o w.heap.size b _ ⟨#[92, 92]⟩ _ HX.out.2.2.2.1 (by have := HLN.out; have : (⟨#[92, 92]⟩ : ByteArray).size = 2 := rfl; omega) HX.out.2.2.2.2).mono ?_; rintro e w5 ⟨rfl, hb5, hB5, hO5⟩; have H5 := Lib.hid (HGz.out _ _ w5 HQ.out rfl hb5 hB5 hO5); clear hb5 hB5 hO5))
          go_roundg (s.size - (i + wd s i))
          case measure => omega
          case rel => exact ⟨i + wd s i, HX.out.1, Nat.le_refl _, H5⟩
        · rw [hc]
          have HQ := Lib.hid hq
          clear hc hq hcl
          go_wp2_with (go_at_call 7; (refine (ws_o w.heap.size b _ ⟨#[92, 117, 48, 48, 69, 57]⟩ _ HX.out.2.2.2.1 (by have := HLN.out; have : (⟨#[92, 117, 48, 48, 69, 57]⟩ : ByteArray).size = 6 := rfl; omega) HX.out.2.2.2.2).mono ?_; rintro e w5 ⟨rfl, hb5, hB5, hO5⟩; have H5 := Lib.hid (HGz.out _ _ w5 HQ.out rfl hb5 hB5 hO5); clear hb5 hB5 hO5))
          go_roundg (s.size - (i + wd s i))
          case measure => omega
          case rel => exact ⟨i + wd s i, HX.out.1, Nat.le_refl _, H5⟩
end Go.Proofs.YtfbeeekakfllpaaDoor
