/-
  zzRunChunk. No statement of the seat is proved here.
-/
import Derived.Test.YtfbeeekakfllpaaDoorJq
import Derived.Test.YtfbeeekakfllpaaDoorAs
import Derived.Test.YtfbeeekakfllpaaDoorAk
import Derived.Test.YtfbeeekakfllpaaDoorZq
import Derived.Test.YtfbeeekakfllpaaDoorBn
import Derived.Test.YtfbeeekakfllpaaDoorDc
namespace Go.Proofs.YtfbeeekakfllpaaDoor
open Go.RowKit Go.Maps
set_option linter.unusedVariables false
set_option linter.unusedSimpArgs false
theorem IsB.gbR {B b R : Nat} {bs : List Value} {w w' : World} (h : IsB B b bs w) (hR : R < B) (hg : w.grownBy w' (some R)) : IsB B b bs w' := by
  have key : ∀ p, BAt B b p bs w → BAt B b p bs w' := by
    rintro p ⟨hB, v, hb, hown, hne⟩
    refine ⟨hB, v, (hg.block b (blt hb) (fun e => by cases e; omega)).trans hb, ownsRow_eq hown (fun y hy => ?_), hne⟩
    have := World.ownsRow.lt hown y hy
    exact hg.block y this.2 (fun e => by cases e; omega)
  exact h.imp (key _) (key _)
theorem CodeAt.below {w w' : World} {ao : Option Addr} {n : Nat} (h : CodeAt w ao n) (hb : Below w.heap.size w w') : CodeAt w' ao n := fun i hi => by
  obtain ⟨b, off, z, h1, h2, h3⟩ := h i hi
  obtain ⟨cs, t, fr, hh⟩ := cell_blk h2
  exact ⟨b, off, z, h1, (hb.cell (p := ⟨b, off + i, none⟩) (blk_lt hh)).trans h2, h3⟩
theorem hdr (a b : Nat) (ha : a < 256) (hb : b < 256) (r : Nat) (hr : r ≤ 1048576) : ∃ nn : Nat, nn ≤ r / 2 ∧ (bits .or .i64 ((a : Int) * 256) (b : Int)).tmod ((r : Int) / 2 + 1) = (nn : Int) := by
  have e1 : (a : Int) * 256 = ((a * 256 : Nat) : Int) := by omega
  rw [e1, i64_or_nat _ _ (by omega) (by omega)]
  have e2 : (r : Int) / 2 + 1 = ((r / 2 + 1 : Nat) : Int) := by omega
  rw [e2]
  refine ⟨(a * 256 ||| b) % (r / 2 + 1), ?_, ?_⟩
  · have := Nat.mod_lt (a * 256 ||| b) (show 0 < r / 2 + 1 by omega); omega
  · rw [Int.tmod_eq_emod_of_nonneg (by omega)]; omega
def z35 : Array Value := #[.pointer none, .slice none 0 0, .int .u32 0, .slice none 0 0, .int .i64 0, .int .i64 0, .int .i64 0, .int .i64 0, .int .i64 0, .int .i64 0, .bool false, .int .i64 0, .bool false]
/-- the reader, and what lies below it -/
structure Ra (w : World) (R : Nat) (cao : Option Addr) (n ccap i : Nat) (wr : World) : Prop where
  rb : Blk wr R 41 #[.slice cao n ccap, .int .i64 i]
  r0 : Blk wr w.heap.size 35 z35
  bel : Below w.heap.size w wr
  ile : i ≤ n
  rs : R = w.heap.size + 1
  code : CodeAt wr cao n
  sz : n ≤ 1048575
theorem CodeAt.gbR {w wr w' : World} {ao : Option Addr} {n : Nat} (h : CodeAt w ao n) (hb : Below w.heap.size w wr) : CodeAt wr ao n := h.below hb
theorem Ra.below {w : World} {R : Nat} {cao : Option Addr} {n ccap i : Nat} {wr w' : World} (h : Ra w R cao n ccap i wr) (hc : CodeAt w cao n) {B : Nat} (hb : Below B wr w') (hB : R < B) : Ra w R cao n ccap i w' := by
  have := h.rs
  have hb' : Below w.heap.size w w' := h.bel.trans (hb.mono (by omega))
  exact ⟨h.rb.below hb hB, h.r0.below hb (by omega), hb', h.ile, h.rs, hc.below hb', h.sz⟩
theorem Ra.gb {w : World} {R : Nat} {cao : Option Addr} {n ccap i : Nat} {wr w' : World} (h : Ra w R cao n ccap i wr) (hc : CodeAt w cao n) (hg : wr.grownBy w' none) : Ra w R cao n ccap i w' :=
  h.below hc ((Below.refl _ _).grown hg (Nat.le_refl _) (fun k e => by cases e)) h.rb.lt
/-- (*zzReader).next -/
def IsNx (w : World) (R : Nat) (cao : Option Addr) (n ccap i : Nat) (wr : World) (e : Ending) (w' : World) : Prop := ∃ z i' : Nat, e = .returned (.int .u8 z) ∧ z < 256 ∧ i ≤ i' ∧ i' ≤ i + 1 ∧ (i < n → i' = i + 1) ∧ Ra w R cao n ccap i' w' ∧ wr.grownBy w' (some R)
theorem Ra.next {w : World} {R : Nat} {cao : Option Addr} {n ccap i : Nat} {wr : World} (h : Ra w R cao n ccap i wr) (hc : CodeAt w cao n) : Calls Tryd.prog 6 #[.pointer (some ⟨R, 0, none⟩)] wr (IsNx w R cao n ccap i wr) := by
  refine (next_any R cao n ccap i wr h.rb h.ile (by have := h.sz; omega) h.code).mono ?_
  rintro e w' ⟨z, i', rfl, h0, h1, h2, h3, h4, h5, hb, hg⟩
  have hrs := h.rs
  have hb' : Below w.heap.size w w' := h.bel.trans ((Below.refl _ _).grown hg (by have := h.r0.lt; omega) (fun k e => by cases e; omega))
  exact ⟨z.toNat, i', by rw [Int.toNat_of_nonneg h0], by omega, h2, h5, h4, ⟨hb, h.r0.gb hg (fun e => by cases e; omega), hb', h3, h.rs, hc.below hb', h.sz⟩, hg⟩
/-- the source text under way -/
structure Rs (w : World) (R : Nat) (cao : Option Addr) (n ccap i : Nat) (b : Nat) (l : List UInt8) (t : Nat) (wr : World) : Prop where
  ra : Ra w R cao n ccap i wr
  ib : IsB b b (Lib.byteCells l) wr
  rb : R < b
  bw : b ≤ wr.heap.size
  ll : l.length ≤ 4 * t
theorem byte_app (l : List UInt8) (s : ByteArray) : Lib.byteCells l ++ Lib.strCells s = Lib.byteCells (l ++ s.data.toList) := by simp [Lib.byteCells, Lib.strCells]
theorem Rs.write {w : World} {R : Nat} {cao : Option Addr} {n ccap i b : Nat} {l : List UInt8} {t : Nat} {wr : World} (h : Rs w R cao n ccap i b l t wr) (hc : CodeAt w cao n) (s : ByteArray) (hs : s.size ≤ 4) (ht : t ≤ 524287) : Calls Tryd.prog 7 #[me b, .string s] wr (fun e w' => (∃ v, e = .returned v) ∧ Rs w R cao n ccap i b (l ++ s.data.toList) (t + 1) w') := by
  refine (ws_any b b (Lib.byteCells l) s wr h.ib (by rw [Lib.byteCells_length]; have := h.ll; omega) h.bw).mono ?_
  rintro e w6 ⟨rfl, hb6, hB6⟩
  refine ⟨⟨_, rfl⟩, h.ra.below hc hB6 h.rb, by rw [← byte_app]; exact .inr hb6, h.rb, Nat.le_trans h.bw hB6.size, ?_⟩
  have h1 := h.ll
  have h2 : s.data.toList.length = s.size := by rw [Array.length_toList]; rfl
  rw [List.length_append, h2]
  omega
theorem gbn_of_below {w w' : World} (h : Below w.heap.size w w') : w.grownBy w' none := ⟨h.os, h.tape, h.output, h.size, fun i hi _ => h.block i hi⟩
theorem gb_some {w w' : World} {r : Option Nat} (h : w.grownBy w' none) : w.grownBy w' r := ⟨h.os, h.tape, h.output, h.size, fun i hi _ => h.block i hi (by simp)⟩
/-- the source text, its positions and tables, which no later step turns -/
structure Env (src : ByteArray) (w : World) (R : Nat) (cao : Option Addr) (n ccap : Nat) (wb : World) (tg psb : Nat) (ps : List Nat) : Prop where
  code : CodeAt w cao n
  sz : n ≤ 1048575
  srz : src.size ≤ 2097152
  rs : R = w.heap.size + 1
  Rw : R < wb.heap.size
  bel : Below w.heap.size w wb
  r0 : Blk wb w.heap.size 35 z35
  lt : ∀ w', wb.grownBy w' (some R) → LtAt src w' tg wb.heap.size
  pl : 0 < ps.length
  pm : ps.length ≤ 2097153
  pb : psb < wb.heap.size
  pcell : ∀ w', wb.grownBy w' (some R) → ∀ j, (h : j < ps.length) → ∀ c, c < 3 → w'.cell? ⟨psb, j * 3 + c, none⟩ = (posRow src (ps[j]'h))[c]?
  bd : ∀ p ∈ ps, Bd src p
theorem Env.ra {src : ByteArray} {w : World} {R : Nat} {cao : Option Addr} {n ccap : Nat} {wb : World} {tg psb : Nat} {ps : List Nat} (h : Env src w R cao n ccap wb tg psb ps) {w' : World} (he : wb.grownBy w' (some R)) {i : Nat} (hb : Blk w' R 41 #[.slice cao n ccap, .int .i64 i]) (hi : i ≤ n) : Ra w R cao n ccap i w' := by
  have h1 := h.rs; have h2 := h.Rw
  have hb' : Below w.heap.size w w' := h.bel.trans ((Below.refl _ _).grown he (by omega) (fun k e => by cases e; omega))
  exact ⟨hb, h.r0.gb he (fun e => by cases e; omega), hb', hi, h.rs, h.code.below hb', h.sz⟩
theorem env_of {src : ByteArray} {w : World} {R : Nat} {cao : Option Addr} {n ccap i : Nat} {w7 w8 w9 : World} {pv tv : Value} {ps : List Nat} {ts : List Tb} (hc : CodeAt w cao n) (hra : Ra w R cao n ccap i w7) (hsz : src.size ≤ 2097152) (hps : PsS src w7 pv ps (src.size + 1) w8) (hne : ps ≠ []) (ho : OwnB w9 w8.heap.size tv ts) (ht : Tabs src w9 w8.heap.size w9.heap.size ts (lns src)) (hb : Below w8.heap.size w8 w9) :
    ∃ tg lcap psb pcap, tv = .slice (some ⟨tg, 0, none⟩) (lns src).length lcap ∧ pv = .slice (some ⟨psb, 0, none⟩) ps.length pcap ∧ Env src w R cao n ccap w9 tg psb ps := by
  have hpl : 0 < ps.length := List.length_pos_iff.2 hne
  have hra8 := hra.below hc hps.bel hra.rb.lt
  have hra9 := hra8.below hc hb hra8.rb.lt
  have hR8 : R < w8.heap.size := hra8.rb.lt
  have hR7 : R < w7.heap.size := hra.rb.lt
  have hs9 := hb.size
  obtain ⟨tg, lcap, htv, hlt⟩ := ltat_of ho ht (fun g hg => (OwnB.lt ho g hg).2)
  obtain ⟨psb, pcap, hpv, hpB, hpl8, _⟩ := hps.own.at 0 (by rw [List.length_map]; exact hpl)
  rw [List.length_map] at hpv
  have ho9 : OwnP src w9 w7.heap.size pv ps := hps.own.eq (fun g hg => hb.block g (hps.own.lt g hg).2)
  refine ⟨tg, lcap, psb, pcap, htv, hpv, hc, hra.sz, hsz, hra.rs, hra9.rb.lt, hra9.bel, hra9.r0, fun w' he => ?_, hpl, by have := hps.len; omega, by omega, fun w' he j hj c hcc => ?_, hps.bd⟩
  · have ho' : OwnB w' w8.heap.size tv ts := ho.gb he (.inr (fun e => by have := (OwnB.lt ho R e).1; omega))
    have ht' : Tabs src w' w8.heap.size w9.heap.size ts (lns src) := ht.gb he (fun k hk => by
      obtain ⟨_, c, hsl, _, _⟩ := ht.2 k hk (by rw [← ht.1]; exact hk)
      rcases hv : (ts[k]'hk).v.ownBlock with _ | y
      · exact .inl rfl
      · exact .inr (fun e => by cases e; have := (hsl.lt R hv).1; omega))
    obtain ⟨tg', lcap', htv', hlt'⟩ := ltat_of ho' ht' (fun g hg => (OwnB.lt ho g hg).2)
    rw [htv] at htv'
    injection htv' with e1 e2 e3
    injection e1 with e1
    injection e1 with e1
    subst e1
    exact hlt'
  · have ho' : OwnP src w' w7.heap.size pv ps := ho9.eq (fun g hg => he.block g (by have := (ho9.lt g hg).2; exact this) (fun e => by cases e; have := (ho9.lt _ hg).1; omega))
    obtain ⟨g', cp', hv', _, _, hcell, _⟩ := ho'.at j (by rw [List.length_map]; exact hj)
    rw [hpv] at hv'
    injection hv' with e1 e2 e3
    injection e1 with e1
    injection e1 with e1
    subst e1
    rw [hcell c hcc]
    simp
def rk0 (b : Nat) : Rk := ⟨.slice (some ⟨b, 0, none⟩) 1 1, [], .slice none 0 0, .slice none 0 0, [], -1, 0, ByteArray.empty, 0⟩
theorem jn_start {wb wc : World} {b0 R bm g : Nat} {lot : Value} {asc : Bool} {r : Array Value} (hcx : Cx wb b0 R bm g) (hg : wb.grownBy wc none) (hmp : Mp wc bm 0 (.map [])) (hbk : Blk wc g 61 (c0 (.map (some bm)) lot asc).cells) :
    Jn wb b0 R (((wc.alloc (.cells #[.slice none 0 0] 96)).alloc (.cells ((rk0 wc.heap.size).cells pq0) 67)).alloc (.cells r 69)) g (c0 (.map (some bm)) lot asc) (.slice none 0 0) [] bm asc (wc.heap.size + 1) wc.heap.size (rk0 wc.heap.size) pq0 (.slice none 0 0) wc.heap.size [] ByteArray.empty 0 0 (wc.heap.size + 1 + 1) r := by
  obtain ⟨wz, hwz⟩ : ∃ wz, ((wc.alloc (.cells #[.slice none 0 0] 96)).alloc (.cells ((rk0 wc.heap.size).cells pq0) 67)).alloc (.cells r 69) = wz := ⟨_, rfl⟩
  have hgz : wc.grownBy wz none := by
    rw [← hwz]
    exact gb_trans (gb_trans (World.grownBy_alloc wc _ none) (World.grownBy_alloc _ _ none)) (World.grownBy_alloc _ _ none)
  have hs : wz.heap.size = wc.heap.size + 3 := by rw [← hwz]; simp
  have hgl := hbk.lt
  have hml := hmp.lt
  have hmg := hcx.mg
  have hen : wb.grownBy wz (some R) := gb_some (gb_trans hg hgz)
  have hln : Lns wz wc.heap.size (.slice (some ⟨wc.heap.size, 0, none⟩) 1 1) [] (.slice none 0 0) [] [] := (Lns.start wc wc.heap.size (Nat.le_refl _)).eq (fun i hi => by
    rcases hi with hi | hi | ⟨x, hx, _⟩
    · cases hi
      rw [← hwz]
      have h1 := (World.grownBy_alloc ((wc.alloc (.cells #[.slice none 0 0] 96)).alloc (.cells ((rk0 wc.heap.size).cells pq0) 67)) (.cells r 69) none).block wc.heap.size (by simp; omega) (by simp)
      have h2 := (World.grownBy_alloc (wc.alloc (.cells #[.slice none 0 0] 96)) (.cells ((rk0 wc.heap.size).cells pq0) 67) none).block wc.heap.size (by simp) (by simp)
      exact h1.trans h2
    · cases hi
    · cases hx)
  have hbf : Blk wz (wc.heap.size + 1) 67 ((rk0 wc.heap.size).cells pq0) := by
    rw [← hwz]
    have := (Blk.new (wc.alloc (.cells #[.slice none 0 0] 96)) 67 ((rk0 wc.heap.size).cells pq0)).alloc (.cells r 69)
    simpa using this
  have hbl : Blk wz (wc.heap.size + 1 + 1) 69 r := by
    rw [← hwz]
    have := Blk.new ((wc.alloc (.cells #[.slice none 0 0] 96)).alloc (.cells ((rk0 wc.heap.size).cells pq0) 67)) 69 r
    simpa using this
  rw [hwz]
  have hb1 : ∀ i, bfp g (c0 (.map (some bm)) lot asc) (.slice none 0 0) [] bm i → i < wc.heap.size := by
    rintro i (rfl | hi | hi | rfl | ⟨v, hv, _⟩)
    · exact hgl
    · cases hi
    · cases hi
    · exact hml
    · cases hv
  have hb2 : ∀ i, (rk0 wc.heap.size).fp (wc.heap.size + 1) i → wc.heap.size ≤ i ∧ i ≤ wc.heap.size + 1 := by
    rintro i (rfl | hi | hi | hi | ⟨v, hv, _⟩)
    · omega
    · cases hi
    · have hi' : wc.heap.size = i := Option.some.inj hi
      omega
    · cases hi
    · cases hv
  refine ⟨hcx, hen, ⟨⟨hbk.gb hgz (by simp), Own.nil _ _ _ _, hcx.tb hen⟩, rfl, rfl, rfl, OwnT.nil _ _ _ _, rfl, fun k h => absurd h (by simp), fun v h => absurd h (by simp), rfl, ⟨0, .map [], hmp.eq (hgz.block bm hml (by simp)), Know.nil, Nat.le_refl _⟩, hmg⟩, ⟨hbf, hln, OwnT.nil _ _ _ _⟩, .inl ⟨rfl, rfl, rfl⟩, Qb.zero, ⟨List.nodup_nil, Nat.le_refl _, fun s h => absurd h List.not_mem_nil⟩, fun s h => absurd h List.not_mem_nil, rfl, rfl, Own.nil _ _ _ _, rfl, fun o e => by (cases e), fun o e => by (cases e), fun i h1 h2 => ?_, rfl, rfl, rfl, ?_, ?_, ?_, ?_, ?_, hbl, ?_, fun e => ?_, fun e => ?_, fun e => by (cases e)⟩
  · have := hb1 i h1; have := hb2 i h2; omega
  all_goals first | omega | (have := hb1 _ e; omega) | (have := hb2 _ e; omega)
theorem Env.cx {src : ByteArray} {w : World} {R : Nat} {cao : Option Addr} {n ccap : Nat} {wb : World} {tg psb : Nat} {ps : List Nat} (h : Env src w R cao n ccap wb tg psb ps) (ht : Tab w w.heap.size) {bm g : Nat} (h1 : wb.heap.size ≤ bm) (h2 : bm < g) : Cx wb w.heap.size R bm g :=
  ⟨ht.below h.bel, by have := h.rs; omega, h.Rw, h1, h2⟩
/-- the next byte picks a place -/
structure Pk (src : ByteArray) (w : World) (R : Nat) (cao : Option Addr) (n ccap : Nat) (wb : World) (psb PN i : Nat) (J : World → Prop) (l : Nat) (z ib j pj Lj Cj : Nat) (w' : World) : Prop where
  zl : z < 256
  zw : IntKind.i64.wrap (z : Int) = (z : Int)
  j1 : (z : Int).tmod (PN : Int) = (j : Int)
  j2 : (z : Int) % (PN : Int) = (j : Int)
  j3 : z % PN = j
  jl : j < PN
  f0 : w'.cell? ⟨psb, j * 3, none⟩ = some (.int .i64 pj)
  f1 : w'.cell? ⟨psb, j * 3 + 1, none⟩ = some (.int .i64 Lj)
  f2 : w'.cell? ⟨psb, j * 3 + 2, none⟩ = some (.int .i64 Cj)
  pr : posRow src pj = [.int .i64 pj, .int .i64 Lj, .int .i64 Cj]
  bd : Bd src pj
  ra : Ra w R cao n ccap ib w'
  ib : i ≤ ib
  jn : J w'
  pb : psb < w'.heap.size
theorem pick {src : ByteArray} {w : World} {R : Nat} {cao : Option Addr} {n ccap : Nat} {wb : World} {tg psb : Nat} {ps : List Nat} {PN i l : Nat} {wa : World} {J : World → Prop} (h : Env src w R cao n ccap wb tg psb ps) (hra : Ra w R cao n ccap i wa) (hen : wb.grownBy wa (some R)) (hJ : ∀ w', wa.grownBy w' (some R) → J w') (hPN : ps.length = PN) :
    Calls Tryd.prog 6 #[.pointer (some ⟨R, 0, none⟩)] wa (fun e w' => ∃ z ib j pj Lj Cj : Nat, e = .returned (.int .u8 z) ∧ Pk src w R cao n ccap wb psb PN i J l z ib j pj Lj Cj w') := by
  refine (hra.next h.code).mono ?_
  rintro e wB ⟨z, ib, rfl, hz, hib, _, _, hraB, hgB⟩
  have hp0 : 0 < PN := by rw [← hPN]; exact h.pl
  have hjP : z % PN < PN := Nat.mod_lt _ hp0
  have hjp : z % PN < ps.length := by rw [hPN]; exact hjP
  have heB : wb.grownBy wB (some R) := gb_trans hen hgB
  have hpc := h.pcell wB heB (z % PN) hjp
  have hpb := h.pb
  have hs := heB.size
  refine ⟨z, ib, z % PN, ps[z % PN]'hjp, _, _, rfl, hz, by rw [IntKind.wrap_i64]; omega, by rw [Int.tmod_eq_emod_of_nonneg (by omega)]; omega, by omega, rfl, hjP, hpc 0 (by omega), hpc 1 (by omega), hpc 2 (by omega), rfl, h.bd _ (List.getElem_mem hjp), hraB, hib, hJ _ hgB, by omega⟩
theorem and3 (z : Nat) (hz : z < 256) : bits .and .u8 (z : Int) 3 = 0 ∨ bits .and .u8 (z : Int) 3 = 1 ∨ bits .and .u8 (z : Int) 3 = 2 ∨ bits .and .u8 (z : Int) 3 = 3 := by
  have h := u8_and_nat z 3 hz (by omega)
  have h2 : z &&& 3 = z % 4 := Nat.and_two_pow_sub_one_eq_mod z 2
  rw [show ((3 : Nat) : Int) = 3 from rfl] at h
  rw [h, h2]
  omega
/-- the loop's state -/
def GRn (src : ByteArray) (w : World) (R : Nat) (cao : Option Addr) (n ccap : Nat) (wb : World) (bm g f B Bo l : Nat) (asc : Bool) (lot : Value) (kk : Nat) (v : Value) (wr : World) : Prop :=
  ∃ (i : Nat) (x : Cb) (sm : Value) (qvs : List Value) (k : Rk) (q : Pq) (pre : List Int) (T : ByteArray) (u m p : Nat), Hid (Jn wb w.heap.size R wr g x sm qvs bm asc f B k q v Bo pre T u m l (posRow src p).toArray ∧ Blk wr R 41 #[.slice cao n ccap, .int .i64 i] ∧ x.lot = lot ∧ u + T.size ≤ 4 * i ∧ (2 * m ≤ i ∨ i = n ∧ 2 * m ≤ i + 1) ∧ i ≤ n ∧ n - i ≤ kk ∧ Bd src p)
def chkS (sao : Option Addr) (sn scap : Nat) (fno : Int) (qao : Option Addr) (qn qcap : Nat) (gl gc ol oc on : Int) (hn : Bool) (gcol : Int) (ig : Bool) : Array Value := #[.slice sao sn scap, .int .u32 fno, .slice qao qn qcap, .int .i64 gl, .int .i64 gc, .int .i64 0, .int .i64 ol, .int .i64 oc, .int .i64 on, .bool hn, .int .i64 gcol, .bool ig]
def runS (f : Nat) (sao : Option Addr) (sn scap : Nat) (fno : Int) (qao : Option Addr) (qn qcap : Nat) (gl gc ol oc on : Int) (hn : Bool) (gcol : Int) (ig : Bool) : Array Value := #[.pointer (some ⟨f, 0, none⟩), .slice sao sn scap, .int .u32 fno, .slice qao qn qcap, .int .i64 gl, .int .i64 gc, .int .i64 0, .int .i64 ol, .int .i64 oc, .int .i64 on, .bool hn, .int .i64 gcol, .bool ig]
noncomputable def zc33 : Array Value := cellsOf ((zeroValue 33).run Tryd.prog default)
theorem alloc33 (w : World) : (Instr.alloc 33 true (.tuple #[])).run Tryd.prog w = .ok (.pointer (some ⟨w.heap.size, 0, none⟩)) (w.alloc (.cells zc33 33)) := by kernel_rfl
section
variable (f : Nat) (sao : Option Addr) (sn scap : Nat) (fno : Int) (qao : Option Addr) (qn qcap : Nat) (gl gc ol oc on : Int) (hn : Bool) (gcol : Int) (ig : Bool)
theorem size33 : zc33.size = (chkS sao sn scap fno qao qn qcap gl gc ol oc on hn gcol ig).size := by kernel_rfl
theorem info33s : (Tryd.prog.info? 33).map (·.size) = some (chkS sao sn scap fno qao qn qcap gl gc ol oc on hn gcol ig).size := by kernel_rfl
theorem one33 : (chkS sao sn scap fno qao qn qcap gl gc ol oc on hn gcol ig).all (·.oneCell') = true := by kernel_rfl
theorem size35 : z35.size = (runS f sao sn scap fno qao qn qcap gl gc ol oc on hn gcol ig).size := by kernel_rfl
theorem info35 : (Tryd.prog.info? 35).map (·.size) = some (runS f sao sn scap fno qao qn qcap gl gc ol oc on hn gcol ig).size := by kernel_rfl
theorem one35 : (runS f sao sn scap fno qao qn qcap gl gc ol oc on hn gcol ig).all (·.oneCell') = true := by kernel_rfl
theorem build35 (w : World) : (Instr.build 35 [(0, .pointer (some ⟨f, 0, none⟩)), (1, .agg (chkS sao sn scap fno qao qn qcap gl gc ol oc on hn gcol ig))].toArray).run Tryd.prog w = .ok (.agg (runS f sao sn scap fno qao qn qcap gl gc ol oc on hn gcol ig)) w := by kernel_rfl
end
theorem chk_cells {wr : World} {c : Nat} {sao : Option Addr} {sn scap : Nat} {fno : Int} {qao : Option Addr} {qn qcap : Nat} {gl gc ol oc on : Int} {hn : Bool} {gcol : Int} {ig : Bool} (h : Blk wr c 33 (chkS sao sn scap fno qao qn qcap gl gc ol oc on hn gcol ig)) :
    wr.cell? ⟨c, 0, none⟩ = some (.slice sao sn scap) ∧ wr.cell? ⟨c, 1, none⟩ = some (.int .u32 fno) ∧ wr.cell? ⟨c, 2, none⟩ = some (.slice qao qn qcap) ∧ wr.cell? ⟨c, 3, none⟩ = some (.int .i64 gl) ∧ wr.cell? ⟨c, 4, none⟩ = some (.int .i64 gc) ∧ wr.cell? ⟨c, 5, none⟩ = some (.int .i64 0) ∧ wr.cell? ⟨c, 6, none⟩ = some (.int .i64 ol) ∧ wr.cell? ⟨c, 7, none⟩ = some (.int .i64 oc) ∧ wr.cell? ⟨c, 8, none⟩ = some (.int .i64 on) ∧ wr.cell? ⟨c, 9, none⟩ = some (.bool hn) ∧ wr.cell? ⟨c, 10, none⟩ = some (.int .i64 gcol) ∧ wr.cell? ⟨c, 11, none⟩ = some (.bool ig) ∧ c < wr.heap.size :=
  ⟨h.cell 0, h.cell 1, h.cell 2, h.cell 3, h.cell 4, h.cell 5, h.cell 6, h.cell 7, h.cell 8, h.cell 9, h.cell 10, h.cell 11, h.lt⟩
theorem chk_form {x : Cb} {sm : Value} {q : Pq} {ig : Bool} {sao : Option Addr} {sn scap : Nat} {qao : Option Addr} {qn qcap : Nat} (h1 : sm = .slice sao sn scap) (h2 : x.qn = .slice qao qn qcap) : chk x sm q ig = chkS sao sn scap x.fno qao qn qcap q.gl q.gc q.ol q.oc q.on q.hn q.gcol ig := by
  unfold chk chkS
  rw [h1, h2]
theorem run_form {f : Nat} {x : Cb} {sm : Value} {q : Pq} {ig : Bool} {sao : Option Addr} {sn scap : Nat} {qao : Option Addr} {qn qcap : Nat} (h1 : sm = .slice sao sn scap) (h2 : x.qn = .slice qao qn qcap) : run35 f x sm q ig = runS f sao sn scap x.fno qao qn qcap q.gl q.gc q.ol q.oc q.on q.hn q.gcol ig := by
  unfold run35 runS
  rw [h1, h2]
/-- what it gives -/
def IsRn (asc : Bool) (w : World) (e : Ending) (w' : World) : Prop := ∃ (f B : Nat) (k : Rk) (q : Pq) (g : Nat) (x : Cb) (sm : Value) (qvs : List Value) (bm u m : Nat), e = .returned (.agg (run35 f x sm q (decide (sgs q.toks = 0)))) ∧ Cs w' f B k q g x sm qvs bm asc u m ∧ u ≤ 4194304 ∧ m ≤ 1048576 ∧ Below w.heap.size w w'
theorem Env.fin {src : ByteArray} {w : World} {R : Nat} {cao : Option Addr} {n ccap : Nat} {wb : World} {tg psb : Nat} {ps : List Nat} (h : Env src w R cao n ccap wb tg psb ps) {w' : World} (he : wb.grownBy w' (some R)) : Below w.heap.size w w' ∧ Blk w' w.heap.size 35 z35 ∧ w.heap.size < wb.heap.size := by
  have h1 := h.rs; have h2 := h.Rw
  exact ⟨h.bel.trans ((Below.refl _ _).grown he (by omega) (fun k e => by cases e; omega)), h.r0.gb he (fun e => by cases e; omega), by omega⟩
set_option maxRecDepth 100000 in
set_option maxHeartbeats 8000000 in
theorem rn_any (cao : Option Addr) (n ccap : Nat) (asc : Bool) (w : World) (hn : n ≤ 1048575) (hc : CodeAt w cao n) (htab : Tab w w.heap.size) (hu8 : Lib.Utf8Tabs 0 1 w) (hw : 2 ≤ w.heap.size) : Calls Tryd.prog 4 #[.slice cao n ccap, .bool asc, .bool false] w (IsRn asc w) := by
  have HH := Lib.hid (And.intro hc (And.intro htab (And.intro hu8 hw)))
  clear hc htab hu8 hw
  obtain ⟨R, hR⟩ : ∃ R, w.heap.size + 1 = R := ⟨_, rfl⟩
  go_enter Tryd.func4, Tryd.ntmps4
  go_upto_region 2 with fail
  obtain ⟨W0, hW0⟩ : ∃ W0, ((w.alloc (.cells #[.pointer none, .slice none 0 0, .int .u32 0, .slice none 0 0, .int .i64 0, .int .i64 0, .int .i64 0, .int .i64 0, .int .i64 0, .int .i64 0, .bool false, .int .i64 0, .bool false] 35)).alloc (.cells #[.slice cao n ccap, .int .i64 0] 41)) = W0 := ⟨_, rfl⟩
  have HA0 : Hid (Ra w R cao n ccap 0 W0) := Lib.hid (by
    have hb : Below w.heap.size w W0 := by rw [← hW0]; exact ((Below.refl _ w).alloc (Nat.le_refl _) _).alloc (by simp) _
    refine ⟨?_, ?_, hb, Nat.zero_le _, hR.symm, HH.out.1.below hb, hn⟩
    · rw [← hW0, ← hR]
      have := Blk.new (w.alloc (.cells z35 35)) 41 #[.slice cao n ccap, .int .i64 0]
      unfold z35 at this
      simpa using this
    · rw [← hW0]; exact (Blk.new w 35 z35).alloc _)
  rw [hW0]
  clear hW0
  go_upto_region 3 with (go_at_call 6; (refine (HA0.out.next HH.out.1).mono ?_; rintro e w1 ⟨z1, i1, rfl, hz1, _, _, _, ha1, _⟩; have H1 := Lib.hid ha1; clear ha1))
  have hz1w : IntKind.i64.wrap (z1 : Int) = (z1 : Int) := by rw [IntKind.wrap_i64]; omega
  go_upto_region 4 with (go_at_call 6; (refine (H1.out.next HH.out.1).mono ?_; rintro e w2 ⟨z2, i2, rfl, hz2, _, _, _, ha2, _⟩; have H2 := Lib.hid ha2; clear ha2))
  have hz2w : IntKind.i64.wrap (z2 : Int) = (z2 : Int) := by rw [IntKind.wrap_i64]; omega
  obtain ⟨rm, hrm⟩ : ∃ rm, n - i2 = rm := ⟨_, rfl⟩
  have hrm' : (n : Int) - (i2 : Int) = (rm : Int) := by have := H2.out.ile; omega
  have hrl : rm ≤ 1048575 := by omega
  have q0 := H2.out.rb.cell 0
  have q1 := H2.out.rb.cell 1
  have ql := H2.out.rb.lt
  simp at q0 q1
  clear hrm
  go_upto_region 5 with fail
  obtain ⟨nn, hnn, hnv⟩ := hdr z1 z2 hz1 hz2 rm (by omega)
  have hd0 : ¬ ((rm : Int).tdiv 2 + 1 = 0) := by rw [Int.tdiv_eq_ediv_of_nonneg (by omega)]; omega
  have hd1 : IntKind.i64.wrap ((rm : Int).tdiv 2) = (rm : Int).tdiv 2 := by rw [IntKind.wrap_i64, Int.tdiv_eq_ediv_of_nonneg (by omega)]; omega
  have hd2 : IntKind.i64.wrap ((rm : Int).tdiv 2 + 1) = (rm : Int).tdiv 2 + 1 := by rw [IntKind.wrap_i64, Int.tdiv_eq_ediv_of_nonneg (by omega)]; omega
  have hnl : nn ≤ 524287 := by omega
  go_cut [11] (fun y wx => y = .int .i64 nn ∧ wx = w2)
  case first =>
    go_wp2_with fail
    go_meet
    exact ⟨rfl, rfl⟩
  case rest =>
  obtain ⟨rfl, hwx⟩ := hcut
  have hwx2 := hwx.symm
  subst hwx2
  clear hwx hnn hnv hd0 hd1 hd2 hz1w hz2w q0 q1 ql
  obtain ⟨Bb, hBb⟩ : ∃ b, w2.heap.size = b := ⟨_, rfl⟩
  have HS0 : Hid (Rs w R cao n ccap i2 Bb [] 0 (w2.alloc (.cells #[.pointer none, .slice none 0 0] 46))) := Lib.hid ⟨H2.out.gb HH.out.1 (World.grownBy_alloc _ _ _), .inl ⟨Nat.le_refl _, _, by rw [← hBb]; exact blk_new w2 _, World.ownsRow_nil _ _ _ _, by simp [Value.ownBlock]⟩, by rw [← hBb]; exact H2.out.rb.lt, by simp; omega, Nat.le_refl _⟩
  go_upto_region 7 with fail
  obtain ⟨W3, hW3⟩ : ∃ W3, w2.alloc (.cells #[.pointer none, .slice none 0 0] 46) = W3 := ⟨_, rfl⟩
  rw [hW3] at HS0 ⊢
  clear hW3 hBb
  go_upto_block 0 with fail
  go_cut [] (fun wx => ∃ (i : Nat) (l : List UInt8), Hid (Rs w R cao n ccap i Bb l nn wx))
  case first =>
    go_wp2_with fail
    go_loopg [13] nn (fun kk y wr => ∃ (t i : Nat) (l : List UInt8), y = .int .i64 t ∧ t ≤ nn ∧ nn - t ≤ kk ∧ Hid (Rs w R cao n ccap i Bb l t wr))
    case atStart => exact ⟨0, i2, [], rfl, Nat.zero_le _, by omega, HS0⟩
    case round =>
      obtain ⟨t, i, l, rfl, ht, hk, HR⟩ := hrel
      rcases (show t = nn ∨ t < nn by omega) with rfl | hlt
      · go_wp2_with fail
        go_meet
        exact ⟨i, l, HR⟩
      · go_wp2_with (first
          | (go_at_call 6; (refine (HR.out.ra.next HH.out.1).mono ?_; rintro e w4 ⟨z, i', rfl, hz, _, _, _, ha4, hg4⟩; have H4 : Hid (Rs w R cao n ccap i' Bb l t w4) := Lib.hid ⟨ha4, HR.out.ib.gbR HR.out.rb hg4, HR.out.rb, Nat.le_trans HR.out.bw hg4.size, HR.out.ll⟩; clear ha4 hg4))
          | (go_at_call 8; (refine (piece_any z (by omega) (by omega) _).mono ?_; rintro e w5 ⟨s, rfl, hs4, hs1, hg5⟩; have H5 : Hid (Rs w R cao n ccap i' Bb l t w5) := Lib.hid ⟨H4.out.ra.gb HH.out.1 hg5, H4.out.ib.gbn hg5, H4.out.rb, Nat.le_trans H4.out.bw hg5.size, H4.out.ll⟩; clear hg5))
          | (go_at_call 7; (refine (H5.out.write HH.out.1 s hs4 (by omega)).mono ?_; rintro e w6 ⟨⟨v6, rfl⟩, h6⟩; have H6 := Lib.hid h6; clear h6)))
        go_roundg (nn - (t + 1))
        case measure => omega
        case rel => exact ⟨t + 1, i', _, by go_num, by omega, Nat.le_refl _, H6⟩
  case rest =>
  obtain ⟨i3, l, HL⟩ := hcut
  clear HS0 H2 H1 HA0
  obtain ⟨src, hsrc⟩ : ∃ s : ByteArray, (⟨l.toArray⟩ : ByteArray) = s := ⟨_, rfl⟩
  go_upto_region 12 with (go_at_call 9; (refine (Tryd.Builder_String_any Bb Bb l _ HL.out.ib HL.out.bw).mono ?_; rintro e w7 ⟨rfl, hB7⟩; have H7 : Hid (Ra w R cao n ccap i3 w7) := Lib.hid (HL.out.ra.below HH.out.1 hB7 HL.out.rb); clear hB7))
  have HZ : Hid (src.size ≤ 2097152) := Lib.hid (by rw [← hsrc]; have := HL.out.ll; show l.toArray.size ≤ _; simp; omega)
  go_upto_region 13 with (go_at_call 10; (refine (pos_any src w7 HZ.out (by have := H7.out.bel.size; have := HH.out.2.2.2; omega) (tabs_below HH.out.2.2.1 H7.out.bel (by have := HH.out.2.2.2; omega) (by have := HH.out.2.2.2; omega))).mono ?_; rintro e w8 ⟨pv, ps, rfl, hps, hpne⟩; have H8 := Lib.hid (And.intro hps hpne); clear hps hpne))
  go_cut [16] (fun y wx => ∃ (tg lcap psb pcap bm g : Nat) (wb : World), y = .pointer (some ⟨g, 0, none⟩) ∧ pv = .slice (some ⟨psb, 0, none⟩) ps.length pcap ∧ Hid (Env src w R cao n ccap wb tg psb ps ∧ wb.grownBy wx none ∧ Blk wx R 41 #[.slice cao n ccap, .int .i64 i3] ∧ wb.heap.size ≤ bm ∧ bm < g ∧ Mp wx bm 0 (.map []) ∧ Blk wx g 61 (c0 (.map (some bm)) (.slice (some ⟨tg, 0, none⟩) (lns src).length lcap) asc).cells))
  case first =>
    have HR8 : Hid (Blk w8 R 41 #[.slice cao n ccap, .int .i64 i3]) := Lib.hid (H7.out.rb.below H8.out.1.bel H7.out.rb.lt)
    go_wp2_with (first
      | (go_at_call 12; (refine (glot_any src 0 w8 HZ.out (by omega)).mono ?_; rintro e w9 ⟨tv, ts, rfl, ho9, ht9, hb9⟩; obtain ⟨tg, lcap, psb, pcap, htv, hpv, hen⟩ := env_of HH.out.1 H7.out HZ.out H8.out.1 H8.out.2 ho9 ht9 hb9; subst htv; have H9 := Lib.hid (And.intro hen (And.intro hpv hb9)); clear ho9 ht9 hb9 hpv hen))
      | (go_at_call 11; (refine (mkb_any (some ⟨tg, 0, none⟩) (lns src).length lcap asc w9).mono ?_; rintro e w10 ⟨bm, rfl, hbm, hmp, hb10⟩; have H10 := Lib.hid (And.intro hbm (And.intro hmp hb10)); clear hbm hmp hb10))
      | (refine wpList_alloc_zero rfl 61 rfl zc61 alloc61 ?_)
      | (refine wpList_store_blk rfl 61 _ _ rfl w10.heap.size zc61 (c0 (.map (some bm)) (.slice (some ⟨tg, 0, none⟩) (lns src).length lcap) asc).cells (Blk.new w10 61 zc61) rfl rfl (size61 _ _ _) (info61 _ _ _) (one61 _ _ _ _ _) ?_; intro w11 hb11 hg11))
    have HG : w9.grownBy w11 none := by
      have h1 : w9.grownBy w10 none := gbn_of_below H10.out.2.2
      have h2 := gb_trans h1 (World.grownBy_alloc w10 (.cells zc61 61) none)
      exact ⟨hg11.os.trans h2.os, hg11.tape.trans h2.tape, hg11.output.trans h2.output, Nat.le_trans h2.size hg11.size, fun i hi hn => (hg11.block i (Nat.lt_of_lt_of_le hi h2.size) (fun e => by cases e; have := h1.size; omega)).trans (h2.block i hi hn)⟩
    have HK := Lib.hid (And.intro hb11 (And.intro hg11 HG))
    clear hb11 hg11 HG
    go_meet
    exact ⟨tg, lcap, psb, pcap, bm, w10.heap.size, w9, rfl, H9.out.2.1, Lib.hid ⟨H9.out.1, HK.out.2.2, (HR8.out.below H9.out.2.2 HR8.out.lt).gb HK.out.2.2 (by simp), H10.out.1, H10.out.2.1.lt, (H10.out.2.1.eq ((HK.out.2.1.block bm (by have := H10.out.2.1.lt; simp; omega) (fun e => by cases e; have := H10.out.2.1.lt; omega)).trans (World.grownBy_alloc w10 (.cells zc61 61) none |>.block bm H10.out.2.1.lt (by simp)))), HK.out.1⟩⟩
  case rest =>
  obtain ⟨tg, lcap, psb, pcap, bm, g, wb, rfl, hpv, HE⟩ := hcut
  subst hpv
  clear H8 HL
  have hp0 : 0 < ps.length := HE.out.1.pl
  obtain ⟨PN, hPN⟩ : ∃ N, ps.length = N := ⟨_, rfl⟩
  obtain ⟨p0, hp0e⟩ : ∃ p, ps[0]'hp0 = p := ⟨_, rfl⟩
  have hp3 : ∀ c, c < 3 → wc.cell? ⟨psb, 0 * 3 + c, none⟩ = (posRow src p0)[c]? := fun c hc => by
    have := HE.out.1.pcell wc (gb_some HE.out.2.1) 0 hp0 c hc
    rw [hp0e] at this
    exact this
  have f0 := hp3 0 (by omega)
  have f1 := hp3 1 (by omega)
  have f2 := hp3 2 (by omega)
  have hpl := HE.out.1.pb
  have hwl := HE.out.2.1.size
  obtain ⟨L0, hL0⟩ : ∃ L0, (T src p0).length = L0 := ⟨_, rfl⟩
  obtain ⟨C0, hC0⟩ : ∃ C0, U src p0 - U src (LS src p0) = C0 := ⟨_, rfl⟩
  simp [posRow, hL0, hC0] at f0 f1 f2
  rw [hPN] at hp0 ⊢
  have HP := Lib.hid (And.intro hPN (And.intro hp0e (And.intro hL0 hC0)))
  clear hPN hp0e hL0 hC0 hp3
  have hpl2 : psb < wc.heap.size := by omega
  go_upto_region 17 with fail
  have HJ0 : Hid (Jn wb w.heap.size R (((wc.alloc (.cells #[.slice none 0 0] 96)).alloc (.cells ((rk0 wc.heap.size).cells pq0) 67)).alloc (.cells (posRow src p0).toArray 69)) g (c0 (.map (some bm)) (.slice (some ⟨tg, 0, none⟩) (lns src).length lcap) asc) (.slice none 0 0) [] bm asc (wc.heap.size + 1) wc.heap.size (rk0 wc.heap.size) pq0 (.slice none 0 0) wc.heap.size [] ByteArray.empty 0 0 (wc.heap.size + 1 + 1) (posRow src p0).toArray ∧ wc.grownBy (((wc.alloc (.cells #[.slice none 0 0] 96)).alloc (.cells ((rk0 wc.heap.size).cells pq0) 67)).alloc (.cells (posRow src p0).toArray 69)) none) := Lib.hid ⟨jn_start (HE.out.1.cx HH.out.2.1 HE.out.2.2.2.1 HE.out.2.2.2.2.1) HE.out.2.1 HE.out.2.2.2.2.2.1 HE.out.2.2.2.2.2.2, gb_trans (gb_trans (World.grownBy_alloc wc _ none) (World.grownBy_alloc _ _ none)) (World.grownBy_alloc _ _ none)⟩
  obtain ⟨WJ, hWJ⟩ : ∃ WJ, ((wc.alloc (.cells #[.slice none 0 0] 96)).alloc (.cells #[.slice (some ⟨wc.heap.size, 0, none⟩) 1 1, .slice none 0 0, .int .i64 (-1), .int .i64 0, .string ⟨#[]⟩, .bool false, .bool false, .int .i64 0, .int .i64 0, .int .i64 0, .int .i64 0, .int .i64 0, .int .i64 0, .bool false, .int .i64 0, .int .i64 0] 67)).alloc (.cells #[.int .i64 p0, .int .i64 L0, .int .i64 C0] 69) = WJ := ⟨_, rfl⟩
  have hWJ' : (((wc.alloc (.cells #[.slice none 0 0] 96)).alloc (.cells ((rk0 wc.heap.size).cells pq0) 67)).alloc (.cells (posRow src p0).toArray 69)) = WJ := by
    rw [← hWJ]; unfold posRow; rw [HP.out.2.2.1, HP.out.2.2.2]; rfl
  rw [hWJ'] at HJ0
  rw [hWJ]
  clear hWJ hWJ'
  obtain ⟨B, hB⟩ : ∃ B, wc.heap.size = B := ⟨_, rfl⟩
  obtain ⟨f, hf⟩ : ∃ f, B + 1 = f := ⟨_, rfl⟩
  obtain ⟨l2, hl2⟩ : ∃ l2, f + 1 = l2 := ⟨_, rfl⟩
  rw [hB, hf, hl2] at HJ0 ⊢
  have HJ : Hid (GRn src w R cao n ccap wb bm g f B B l2 asc (.slice (some ⟨tg, 0, none⟩) (lns src).length lcap) (n - i3) (.slice none 0 0) WJ) := Lib.hid ⟨i3, _, _, _, _, _, _, _, 0, 0, p0, Lib.hid ⟨HJ0.out.1, HE.out.2.2.1.gb HJ0.out.2 (by simp), rfl, by simp, .inl (by omega), H7.out.ile, Nat.le_refl _, by rw [← HP.out.2.1]; exact HE.out.1.bd _ (List.getElem_mem _)⟩⟩
  clear HJ0 hB hf hl2 f0 f1 f2 hpl hwl hpl2
  have HEN := Lib.hid HE.out.1
  clear HE
  go_wp2_with fail
  go_loopg [18] (n - i3) (fun kk y wr => GRn src w R cao n ccap wb bm g f B B l2 asc (.slice (some ⟨tg, 0, none⟩) (lns src).length lcap) kk y wr)
  case atStart => exact HJ.out
  case round =>
    obtain ⟨i, x, sm, qvs, k, q, pre, T, u, m, p, HG⟩ := hrel
    have hR : Hid (Ra w R cao n ccap i wr) := Lib.hid (HEN.out.ra HG.out.1.en HG.out.2.1 HG.out.2.2.2.2.2.1)
    have hin := HG.out.2.2.2.2.2.1
    rcases (show i = n ∨ i < n by omega) with hie | hlt
    · have hid : decide (i < n) = false := decide_eq_false (by omega)
      have HIE := Lib.hid hie
      clear hie
      go_upto_region 35 with (go_at_call 15; (refine (more_any R cao n ccap i _ HG.out.2.1).mono ?_; rintro e w1 ⟨rfl, hg1⟩; rw [hid]; have H1 := Lib.hid (HG.out.1.gb hg1 (.inl rfl)); clear hg1))
      have HGi := Lib.hid HG.out.2.2
      clear HG hR
      have HNB : Hid (u + T.size ≤ 4194304 ∧ m ≤ 1048576) := Lib.hid (by have := HGi.out.2.1; have := HGi.out.2.2.1; have := HIE.out; omega)
      go_upto_region 36 with (first
        | (go_at_call 17; (refine (gen_any g x sm u18 q qvs k.ns bm asc u m T _ H1.out.bu H1.out.fn H1.out.lu H1.out.outv H1.out.ob HNB.out.1 H1.out.qb HNB.out.2).mono ?_; rintro e w2 ⟨x1, sm1, qvs1, rfl, hb1, hf1⟩; obtain ⟨sao, scap, hsm, _⟩ := hb1.bu.cbd.own.form; obtain ⟨qao, qcap, hqn, _⟩ := hb1.bu.qn.form; obtain ⟨ig, hig⟩ : ∃ ig, decide (sgs (runQ T q T.size).toks = 0) = ig := ⟨_, rfl⟩; obtain ⟨sn, hsn⟩ : ∃ sn, (txt false (runQ T q T.size).toks).length = sn := ⟨_, rfl⟩; obtain ⟨qn, hqnn⟩ : ∃ qn, (qvs1.map fun x => [x]).length = qn := ⟨_, rfl⟩; rw [hsn] at hsm; rw [hqnn] at hqn; have hck := chk_form (x := x1) (sm := sm1) (q := runQ T q T.size) (ig := ig) hsm hqn; have hrn := run_form (f := f) (x := x1) (sm := sm1) (q := runQ T q T.size) (ig := ig) hsm hqn; rw [hig, hck]; have H2 := Lib.hid (And.intro hb1 (And.intro hf1 (And.intro hrn hig))); clear hb1 hf1 hrn hck hig hsm hqn hsn hqnn))
        | (refine wpList_alloc_zero rfl 33 rfl zc33 alloc33 ?_)
        | (refine wpList_store_blk rfl 33 _ _ rfl w2.heap.size zc33 (chkS sao sn scap x1.fno qao qn qcap (runQ T q T.size).gl (runQ T q T.size).gc (runQ T q T.size).ol (runQ T q T.size).oc (runQ T q T.size).on (runQ T q T.size).hn (runQ T q T.size).gcol ig) (Blk.new w2 33 zc33) rfl rfl (size33 _ _ _ _ _ _ _ _ _ _ _ _ _ _ _) (info33s _ _ _ _ _ _ _ _ _ _ _ _ _ _ _) (one33 _ _ _ _ _ _ _ _ _ _ _ _ _ _ _) ?_; intro w3 hb3 hg3))
      have hga := World.grownBy_alloc w2 (.cells zc33 33) none
      have hcb : ¬ bfp g x1 sm1 qvs1 bm w2.heap.size := fun e => by have := (H2.out.1.bu.lt _ e).1; omega
      have hs3 := (H2.out.1.kept hga).setNew hg3 H2.out.1.ch.size H2.out.1.bu.cbd.blk.lt hcb
      have H3 := Lib.hid (And.intro hs3 (And.intro (H1.out.mid hs3) hb3))
      have hc1 : w1.heap.size ≤ w2.heap.size := H2.out.1.ch.size
      obtain ⟨c, hc⟩ : ∃ c, w2.heap.size = c := ⟨_, rfl⟩
      rw [hc] at H3 ⊢
      have HCC : Hid (w1.heap.size ≤ c) := Lib.hid (by omega)
      clear hga hcb hs3 hb3 hg3 hc hc1
      obtain ⟨fno, hfno⟩ : ∃ z, x1.fno = z := ⟨_, rfl⟩
      obtain ⟨gl, hgl⟩ : ∃ z, (runQ T q T.size).gl = z := ⟨_, rfl⟩
      obtain ⟨gc, hgc⟩ : ∃ z, (runQ T q T.size).gc = z := ⟨_, rfl⟩
      obtain ⟨ol, hol⟩ : ∃ z, (runQ T q T.size).ol = z := ⟨_, rfl⟩
      obtain ⟨oc, hoc⟩ : ∃ z, (runQ T q T.size).oc = z := ⟨_, rfl⟩
      obtain ⟨on, hon⟩ : ∃ z, (runQ T q T.size).on = z := ⟨_, rfl⟩
      obtain ⟨hhn, hhnn⟩ : ∃ z, (runQ T q T.size).hn = z := ⟨_, rfl⟩
      obtain ⟨gcol, hgcol⟩ : ∃ z, (runQ T q T.size).gcol = z := ⟨_, rfl⟩
      have HV : Hid (run35 f x1 sm1 (runQ T q T.size) (decide (sgs (runQ T q T.size).toks = 0)) = runS f sao sn scap fno qao qn qcap gl gc ol oc on hhn gcol ig ∧ Blk w3 c 33 (chkS sao sn scap fno qao qn qcap gl gc ol oc on hhn gcol ig)) := Lib.hid (by
        have h1 := H2.out.2.2.1
        have h2 := H3.out.2.2
        rw [hfno, hgl, hgc, hol, hoc, hon, hhnn, hgcol] at h1 h2
        exact ⟨by rw [H2.out.2.2.2]; exact h1, h2⟩)
      clear hfno hgl hgc hol hoc hon hhnn hgcol
      go_upto_region 37 with (go_at_call 18; (refine (scan_all f B k q u18 u m T _ H1.out.la H3.out.2.1.1 H3.out.2.1.2.2.1 H3.out.2.1.2.1 H1.out.of HNB.out.1 H1.out.qb (by have := HNB.out.2; omega)).mono ?_; rintro e w4 ⟨k1, rfl, hr, hk, hla⟩; have H4 := Lib.hid (And.intro hr hk); clear hr hk hla))
      have hcf : ¬ k.fp f c := fun e => by have := H1.out.rf.lt c e; have := HCC.out; omega
      obtain ⟨c0, c1, c2, c3, c4, c5, c6, c7, c8, c9, c10, c11, hcl⟩ := chk_cells (H4.out.1.ch.blk HV.out.2 hcf)
      have hfin := H1.out.fin HNB.out.1 HNB.out.2 H3.out.1 H2.out.2.1 H4.out.1 H4.out.2
      have henv := HEN.out.fin hfin.2.1
      have HF := Lib.hid (And.intro hfin henv)
      clear hcf hfin henv
      obtain ⟨r0, hr0⟩ : ∃ r, w.heap.size = r := ⟨_, rfl⟩
      have HR0 := Lib.hid hr0
      rw [hr0]
      clear hr0
      go_wp2_with (first
        | (refine wpList_build rfl 35 _ rfl [(0, .pointer (some ⟨f, 0, none⟩)), (1, .agg (chkS sao sn scap fno qao qn qcap gl gc ol oc on hhn gcol ig))] (by simp [Act.eval, go_sem, chkS]) (runS f sao sn scap fno qao qn qcap gl gc ol oc on hhn gcol ig) (build35 _ _ _ _ _ _ _ _ _ _ _ _ _ _ _ _ _) ?_)
        | (refine wpList_store_blk rfl 35 _ _ rfl r0 z35 (runS f sao sn scap fno qao qn qcap gl gc ol oc on hhn gcol ig) (by rw [← HR0.out]; exact HF.out.2.2.1) rfl rfl (size35 _ _ _ _ _ _ _ _ _ _ _ _ _ _ _ _) (info35 _ _ _ _ _ _ _ _ _ _ _ _ _ _ _ _) (one35 _ _ _ _ _ _ _ _ _ _ _ _ _ _ _ _) ?_; intro w5 hb5 hg5))
      have hb1 := HF.out.2.2.2
      have hb2 := H1.out.cx.wm
      have hb3 := H1.out.cx.mg
      have hr0 := HR0.out
      have bel5 : Below w.heap.size w w5 := HF.out.2.1.trans ((Below.refl _ _).grown hg5 (by have := HF.out.2.1.size; omega) (fun k e => by cases e; omega))
      have hcs5 := HF.out.1.1.put (w' := w5) HF.out.1.2.2.1 HF.out.1.2.2.2 (fun i hi hl => hg5.block i hl (fun e => by cases e; omega)) ((HH.out.2.1.below bel5).up (by omega))
      simp only [Act.put]
      refine bodyPost_ret (v := .agg (runS f sao sn scap fno qao qn qcap gl gc ol oc on hhn gcol ig)) (results_cell_row (d := _) Tryd.results4 _ _ r0 35 _ (0, 0) (by rfl) hb5 Tryd.underlying35 rfl (info35 _ _ _ _ _ _ _ _ _ _ _ _ _ _ _ _)) rfl ⟨f, B, k1, _, g, x1, sm1, qvs1, bm, u + T.size, m, by rw [HV.out.1], hcs5, HNB.out.1, by have := HNB.out.2; omega, bel5⟩
    · have hid : decide (i < n) = true := decide_eq_true hlt
      go_upto_region 25 with (go_at_call 15; (refine (more_any R cao n ccap i _ HG.out.2.1).mono ?_; rintro e w1 ⟨rfl, hg1⟩; rw [hid]; have H1 := Lib.hid (And.intro (HG.out.1.gb hg1 (.inl rfl)) (hR.out.gb HH.out.1 hg1)); clear hg1))
      go_upto_region 26 with (go_at_call 6; (refine (H1.out.2.next HH.out.1).mono ?_; rintro e wA ⟨z, ia, rfl, hz, _, _, hia, hraA, hgA⟩; have HA := Lib.hid (And.intro (H1.out.1.gb hgA (.inr rfl)) (And.intro hraA (hia hlt))); clear hgA hia hraA))
      have HGi := Lib.hid HG.out.2.2
      clear HG H1 hR
      have hzi : (0 : Int) ≤ (z : Int) ∧ (z : Int) < 256 := by omega
      rcases and3 z hz with h3 | h3 | h3
      · go_wp2_with (first
          | (go_at_call 8; (refine (piece_any _ (by omega) (by omega) _).mono ?_; rintro e wB ⟨s, rfl, hs4, hs1, hgB⟩; have HB := Lib.hid (And.intro (HA.out.1.gb hgB (.inl rfl)) (And.intro (HA.out.2.1.gb HH.out.1 hgB) (And.intro hs4 hs1))); clear hgB hs4 hs1))
          | (at_builtin; (refine wpList_pushSL _ rfl (.tmp 136) (.tmp 139) rfl B u18 (pre ++ byI T) rfl HB.out.1.own s rfl (by rw [List.length_append, byI_len, HB.out.1.pl]; have := HGi.out.2.1; have := HB.out.2.2.1; omega) HB.out.1.os ?_; intro v' wC hoC hgC hnC; have HC : Hid (Jn wb w.heap.size R wC g x sm qvs bm asc f B k q v' B pre (T ++ s) u m l2 (posRow src p).toArray ∧ Blk wC R 41 #[.slice cao n ccap, .int .i64 ia]) := Lib.hid ⟨HB.out.1.push hoC hgC hnC, HB.out.2.1.rb.gb hgC (fun e => by have := (HB.out.1.own.lt R e.symm).1; have := HB.out.1.bo; have := HB.out.1.rn; omega)⟩; clear hoC hgC hnC)))
        go_roundg (n - ia)
        case measure => have := HA.out.2.2; have := HGi.out.2.2.2.2.1; omega
        case rel => exact ⟨ia, x, sm, qvs, k, q, pre, T ++ s, u, m, p, Lib.hid ⟨HC.out.1, HC.out.2, HGi.out.1, by have := HGi.out.2.1; have := HB.out.2.2.1; have := HA.out.2.2; rw [ByteArray.size_append]; omega, by have := HGi.out.2.2.1; have := HA.out.2.2; omega, HA.out.2.1.ile, Nat.le_refl _, HGi.out.2.2.2.2.2⟩⟩
      · go_wp2_with (first
          | (go_at_call 8; (refine (piece_any _ (by omega) (by omega) _).mono ?_; rintro e wB ⟨s, rfl, hs4, hs1, hgB⟩; have HB := Lib.hid (And.intro (HA.out.1.gb hgB (.inl rfl)) (And.intro (HA.out.2.1.gb HH.out.1 hgB) (And.intro hs4 hs1))); clear hgB hs4 hs1))
          | (at_builtin; (refine wpList_pushSL _ rfl (.tmp 136) (.tmp 139) rfl B u18 (pre ++ byI T) rfl HB.out.1.own s rfl (by rw [List.length_append, byI_len, HB.out.1.pl]; have := HGi.out.2.1; have := HB.out.2.2.1; omega) HB.out.1.os ?_; intro v' wC hoC hgC hnC; have HC : Hid (Jn wb w.heap.size R wC g x sm qvs bm asc f B k q v' B pre (T ++ s) u m l2 (posRow src p).toArray ∧ Blk wC R 41 #[.slice cao n ccap, .int .i64 ia]) := Lib.hid ⟨HB.out.1.push hoC hgC hnC, HB.out.2.1.rb.gb hgC (fun e => by have := (HB.out.1.own.lt R e.symm).1; have := HB.out.1.bo; have := HB.out.1.rn; omega)⟩; clear hoC hgC hnC)))
        go_roundg (n - ia)
        case measure => have := HA.out.2.2; have := HGi.out.2.2.2.2.1; omega
        case rel => exact ⟨ia, x, sm, qvs, k, q, pre, T ++ s, u, m, p, Lib.hid ⟨HC.out.1, HC.out.2, HGi.out.1, by have := HGi.out.2.1; have := HB.out.2.2.1; have := HA.out.2.2; rw [ByteArray.size_append]; omega, by have := HGi.out.2.2.1; have := HA.out.2.2; omega, HA.out.2.1.ile, Nat.le_refl _, HGi.out.2.2.2.2.2⟩⟩
      · obtain ⟨y, hy⟩ : ∃ y, bits .and .u8 (z : Int) 3 = y := ⟨_, rfl⟩
        rw [hy] at h3
        have d0 : (y == 0) = false := beq_eq_false_iff_ne.2 (by omega)
        have d1 : (y == 1) = false := beq_eq_false_iff_ne.2 (by omega)
        go_upto_region 27 with fail
        clear d0 d1
        go_upto_if 108 with fail
        go_cut [] (fun wx => ∃ ib pb, Hid (Jn wb w.heap.size R wx g x sm qvs bm asc f B k q u18 B pre T u m l2 (posRow src pb).toArray ∧ Ra w R cao n ccap ib wx ∧ ia ≤ ib ∧ Bd src pb))
        case first =>
          rcases h3 with rfl | rfl
          · have hll := HA.out.1.lb.lt
            go_wp2_with (go_at_call 6; (refine (pick (l := l2) (J := fun w' => Jn wb w.heap.size R w' g x sm qvs bm asc f B k q u18 B pre T u m l2 (posRow src p).toArray) HEN.out HA.out.2.1 HA.out.1.en (fun w' hg => HA.out.1.gb hg (.inr rfl)) HP.out.1).mono ?_; rintro e wB ⟨z4, ib, j, pj, Lj, Cj, rfl, HPK⟩; have hz4 := HPK.zl; have hz4w := HPK.zw; have hj1 := HPK.j1; have hj2 := HPK.j2; have hj3 := HPK.j3; have hjl := HPK.jl; have f0 := HPK.f0; have f1 := HPK.f1; have f2 := HPK.f2; have hpb := HPK.pb; have hfr := HPK.jn.lb.free; have hlB := HPK.jn.lb.lt; have l0 := HPK.jn.lb.cell 0; have l1 := HPK.jn.lb.cell 1; have l3 := HPK.jn.lb.cell 2; simp [posRow] at l0 l1 l3; have HB := Lib.hid HPK; clear HPK))
            go_meet
            have hgs : wB.grownBy (((wB.setCell ⟨l2, 0, none⟩ (.int .i64 pj)).setCell ⟨l2, 1, none⟩ (.int .i64 Lj)).setCell ⟨l2, 2, none⟩ (.int .i64 Cj)) (some l2) := gb_set (gb_set (gb_set (gb_refl _ _) 0 none _) 1 none _) 2 none _
            have hbs : Blk (((wB.setCell ⟨l2, 0, none⟩ (.int .i64 pj)).setCell ⟨l2, 1, none⟩ (.int .i64 Lj)).setCell ⟨l2, 2, none⟩ (.int .i64 Cj)) l2 69 (posRow src pj).toArray := by
              have := ((HB.out.jn.lb.set 0 (.int .i64 pj)).set 1 (.int .i64 Lj)).set 2 (.int .i64 Cj)
              rw [HB.out.pr]
              simpa [posRow] using this
            have hRl : R < l2 := by have := HB.out.jn.rn; have := HB.out.jn.bl; omega
            exact ⟨ib, pj, Lib.hid ⟨HB.out.jn.set hgs hbs, HB.out.ra.below HH.out.1 ((Below.refl l2 _).grown hgs (Nat.le_of_lt hlB) (fun k e => by cases e; exact Nat.le_refl _)) hRl, HB.out.ib, HB.out.bd⟩⟩
          · go_wp2_with fail
            go_meet
            exact ⟨ia, p, Lib.hid ⟨HA.out.1, HA.out.2.1, Nat.le_refl _, HGi.out.2.2.2.2.2⟩⟩
        case rest =>
        obtain ⟨ib, pb, HB⟩ := hcut
        clear hy h3
        obtain ⟨ao, cap, hv, _⟩ := HB.out.1.own.form
        obtain ⟨M, hM⟩ : ∃ M, (pre ++ byI T).length = M := ⟨_, rfl⟩
        rw [hM] at hv
        have hMu : u + T.size = M := by rw [← hM, List.length_append, byI_len, HB.out.1.pl]
        clear hM
        subst hv
        have hpb : pb ≤ 2097152 := by have := HB.out.2.2.2.le; have := HZ.out; omega
        have hpw : IntKind.i32.wrap (pb : Int) = (pb : Int) := by rw [IntKind.wrap_i32]; omega
        obtain ⟨Lb, hLb⟩ : ∃ L0, (YtfbeeekakfllpaaDoor.T src pb).length = L0 := ⟨_, rfl⟩
        obtain ⟨Cc, hCc⟩ : ∃ C0, U src pb - U src (LS src pb) = C0 := ⟨_, rfl⟩
        have HLC := Lib.hid (And.intro hLb (And.intro hCc hMu))
        clear hLb hCc hMu
        go_upto_region 30 with (first
          | (go_at_call 6; (refine (HB.out.2.1.next HH.out.1).mono ?_; rintro e wC ⟨z5, ic, rfl, hz5, hic, hic2, hic3, hraC, hgC⟩; have HC := Lib.hid (And.intro (HB.out.1.gb hgC (.inr rfl)) (And.intro hraC (And.intro hic (And.intro hic2 hic3)))); clear hgC hraC hic hic2 hic3))
          | (go_at_call 16; (refine (name_any z5 (by omega) (by omega) _).mono ?_; rintro e wD ⟨s, rfl, hs, hgD⟩; have HD := Lib.hid (And.intro (HC.out.1.gb hgD (.inl rfl)) (And.intro (HC.out.2.1.gb HH.out.1 hgD) hs)); clear hgD hs)))
        have l0 := HD.out.1.lb.cell 0
        have hll := HD.out.1.lb.lt
        simp [posRow] at l0
        by_cases hdup : Dup k pb M s
        · have HDU := Lib.hid hdup
          clear hdup
          go_upto_region 31 with (go_at_call 13; (refine (asm_skip g x sm q qvs k.ns bm asc ao M cap pb s _ HD.out.1.bu (by rw [HD.out.1.e1, HD.out.1.e2, HD.out.1.e3]; exact HDU.out)).mono ?_; rintro e wE ⟨rfl, hgE⟩; have HE := Lib.hid (And.intro (HD.out.1.gb hgE (.inl rfl)) (HD.out.2.1.gb HH.out.1 hgE)); clear hgE))
          clear l0 hll
          have l0 := HE.out.1.lb.cell 0
          have l1 := HE.out.1.lb.cell 1
          have l3 := HE.out.1.lb.cell 2
          have hll := HE.out.1.lb.lt
          simp [posRow, HLC.out.1, HLC.out.2.1] at l0 l1 l3
          go_wp2_with (go_at_call 14; (refine (add_skip f B k q ao M cap pb Lb Cc s _ HE.out.1.rf HDU.out).mono ?_; rintro e wF ⟨rfl, hgF⟩; have HF := Lib.hid (And.intro (HE.out.1.gb hgF (.inl rfl)) (HE.out.2.gb HH.out.1 hgF)); clear hgF))
          go_roundg (n - ic)
          case measure => have := HGi.out.2.2.2.2.1; have := HA.out.2.2; have := HB.out.2.2.1; have := HC.out.2.2.1; omega
          case rel => exact ⟨ic, x, sm, qvs, k, q, pre, T, u, m, pb, Lib.hid ⟨HF.out.1, HF.out.2.rb, HGi.out.1, by have := HGi.out.2.1; have := HA.out.2.2; have := HB.out.2.2.1; have := HC.out.2.2.1; omega, by have := HGi.out.2.2.1; have := HA.out.2.2; have := HB.out.2.2.1; have := HC.out.2.2.1; omega, HF.out.2.ile, Nat.le_refl _, HB.out.2.2.2⟩⟩
        · have HDU := Lib.hid hdup
          clear hdup
          obtain ⟨ns', nm, hnm⟩ := nmd_any k.ns s
          have HN := Lib.hid hnm
          clear hnm
          have HMB : Hid (M ≤ 4194304 ∧ m ≤ 1048000) := Lib.hid (by have := HGi.out.2.1; have := HGi.out.2.2.1; have := HLC.out.2.2; omega)
          go_upto_region 31 with (go_at_call 13; (refine (asm_new g x sm (.slice ao M cap) q qvs k.ns ns' bm asc u m T src pb tg wb.heap.size lcap s nm _ HD.out.1.bu HD.out.1.fn HD.out.1.lu HD.out.1.outv HD.out.1.ob (by rw [HLC.out.2.2]; exact HMB.out.1) HD.out.1.qb HMB.out.2 HGi.out.1 (HEN.out.lt _ HD.out.1.en) HD.out.1.cx.wm HZ.out HB.out.2.2.2 HD.out.2.2 HN.out HD.out.1.nk (by rw [HD.out.1.e1, HD.out.1.e2, HD.out.1.e3, HLC.out.2.2]; exact HDU.out)).mono ?_; rintro e wE ⟨x1, sm1, qvs1, rfl, hb1, h1, h2, h3, h4, h5, hf1⟩; rw [HLC.out.1, HLC.out.2.1] at hb1 hf1; rw [HLC.out.2.2] at h1 h2; have HE := Lib.hid (And.intro hb1 (And.intro h1 (And.intro h2 (And.intro h3 (And.intro h4 (And.intro h5 (And.intro hf1 (HD.out.1.mid hb1)))))))); clear hb1 h1 h2 h3 h4 h5 hf1))
          clear l0 hll
          have l0 := HE.out.2.2.2.2.2.2.2.2.2.2.1.cell 0
          have l1 := HE.out.2.2.2.2.2.2.2.2.2.2.1.cell 1
          have l3 := HE.out.2.2.2.2.2.2.2.2.2.2.1.cell 2
          have hll := HE.out.2.2.2.2.2.2.2.2.2.2.1.lt
          simp [posRow, HLC.out.1, HLC.out.2.1] at l0 l1 l3
          go_wp2_with (go_at_call 14; (refine (add_new f B k q (.slice ao M cap) u m T pb Lb Cc s ns' nm _ HD.out.1.la HE.out.2.2.2.2.2.2.2.1 HE.out.2.2.2.2.2.2.2.2.2.1 HE.out.2.2.2.2.2.2.2.2.1 HD.out.1.of (by rw [HLC.out.2.2]; exact HMB.out.1) HD.out.1.qb (by have := HMB.out.2; omega) (by rw [HLC.out.2.2]; exact HDU.out) HN.out HD.out.1.nk).mono ?_; rintro e wF ⟨k1, rfl, hr, hk1, hk2, hk3, hk4, hk5⟩; rw [HLC.out.2.2] at hk3 hk5; have HF := Lib.hid (And.intro (HD.out.1.step HLC.out.2.2 HLC.out.1 HLC.out.2.1 HMB.out.1 (by have := HMB.out.2; omega) HZ.out HB.out.2.2.2.le HD.out.2.2 HN.out HE.out.1 HE.out.2.1 HE.out.2.2.1 HE.out.2.2.2.1 HE.out.2.2.2.2.1 HE.out.2.2.2.2.2.2.1 hr hk1 hk2 hk3 hk4 hk5) (HD.out.1.keepR HE.out.1 hr HD.out.2.1.rb)); clear hr hk1 hk2 hk3 hk4 hk5))
          go_roundg (n - ic)
          case measure => have := HGi.out.2.2.2.2.1; have := HA.out.2.2; have := HB.out.2.2.1; have := HC.out.2.2.1; omega
          case rel => exact ⟨ic, x1, sm1, qvs1, k1, _, pre ++ byI T, ByteArray.empty, M, m + 1, pb, Lib.hid ⟨HF.out.1, HF.out.2, HE.out.2.2.2.2.2.1.trans HGi.out.1, by have := HGi.out.2.1; have := HA.out.2.2; have := HB.out.2.2.1; have := HC.out.2.2.1; have := HLC.out.2.2; show M + 0 ≤ _; omega, by have := HGi.out.2.2.1; have := HA.out.2.2; have := HB.out.2.2.1; have h1 := HC.out.2.2; have := HB.out.2.1.ile; omega, HD.out.2.1.ile, Nat.le_refl _, HB.out.2.2.2⟩⟩
end Go.Proofs.YtfbeeekakfllpaaDoor
