/-
  The plain side of the law's own reader of the appended text. No program in sight.
-/
import Derived.Test.YtoegmcakolidbaaDoorBp
import Derived.Test.YtoegmcakolidbaaDoorNu
import Derived.Test.YtoegmcakolidbaaDoorBc
namespace Go.Proofs.YtoegmcakolidbaaDoor
open Go.RowKit
set_option linter.unusedVariables false
theorem drop_head {az R : List Int} {pos : Nat} {x : Int} (h : az.drop pos = x :: R) : pos < az.length ∧ nth az pos = x ∧ az.drop (pos + 1) = R := by
  have hl : pos < az.length := by
    rcases Nat.lt_or_ge pos az.length with h1 | h1
    · exact h1
    · rw [List.drop_eq_nil_of_le h1] at h; cases h
  rw [List.drop_eq_getElem_cons hl] at h
  injection h with h1 h2
  exact ⟨hl, by rw [nth_get az pos hl]; exact h1, h2⟩
theorem drop_past {az X R : List Int} {pos : Nat} (h : az.drop pos = X ++ R) (hp : pos ≤ az.length) : az.drop (pos + X.length) = R ∧ pos + X.length ≤ az.length := by
  have h1 := congrArg List.length h
  rw [List.length_drop, List.length_append] at h1
  refine ⟨?_, by omega⟩
  rw [← List.drop_drop, h, List.drop_left]
theorem seg_num {az zl R : List Int} {pos : Nat} (h : az.drop pos = encL zl ++ R) (hp : pos ≤ az.length) (i : Nat) (hi : i < zl.length) : NumAt az (pos + (encL (zl.take i)).length) (nth zl i) := by
  have e : zl = zl.take i ++ ([nth zl i] ++ zl.drop (i + 1)) := by
    rw [nth_get zl i hi, ← List.append_assoc, List.take_append_getElem hi, List.take_append_drop]
  have e2 : encL zl = encL (zl.take i) ++ (enc (nth zl i) ++ encL (zl.drop (i + 1))) := by
    rw [← encL_one, ← encL_app, ← encL_app, ← e]
  have e3 : az = (az.take pos ++ encL (zl.take i)) ++ (enc (nth zl i) ++ (encL (zl.drop (i + 1)) ++ R)) := by
    have : az = az.take pos ++ az.drop pos := (List.take_append_drop pos az).symm
    rw [h, e2] at this
    rw [this]
    simp only [List.append_assoc]
    rw [List.take_left' (by rw [List.length_take]; omega)]
  intro j hj
  have hX : (az.take pos ++ encL (zl.take i)).length = pos + (encL (zl.take i)).length := by rw [List.length_append, List.length_take]; omega
  rw [← hX]
  generalize az.take pos ++ encL (zl.take i) = X at e3
  rw [e3]
  refine ⟨by simp; omega, ?_⟩
  rw [nth_app_right, nth_app_left _ _ _ hj]
theorem encL_pos {zl : List Int} (h : 1 ≤ zl.length) : 1 ≤ (encL zl).length := by
  match zl, h with
  | z :: t, _ => have := (enc_len z).1; simp [encL]; omega
theorem seg_first {az zl R : List Int} {pos : Nat} (h : az.drop pos = encL zl ++ R) (hp : pos ≤ az.length) (h1 : 1 ≤ zl.length) : pos < az.length ∧ B64 (nth az pos) := by
  have h2 := seg_num h hp 0 (by omega) 0 (enc_len _).1
  simp only [List.take_zero, encL, List.flatMap_nil, List.length_nil, Nat.add_zero] at h2
  exact ⟨h2.1, by rw [h2.2]; exact enc_ok _ _ (nth_mem _ _ (enc_len _).1)⟩
theorem seg_end {az : List Int} {en : Nat} {t : List Tg} (h : az.drop en = txg true t) (he : en ≤ az.length) : en = az.length ∨ (en < az.length ∧ (nth az en = 44 ∨ nth az en = 59)) := by
  match t, h with
  | [], h =>
    left
    have := congrArg List.length h
    simp [txg] at this
    omega
  | .nl :: t, h => have := drop_head h; exact .inr ⟨this.1, .inr this.2.1⟩
  | .seg zs :: t, h => have := drop_head (R := encL zs ++ txg true t) h; exact .inr ⟨this.1, .inl this.2.1⟩
theorem flat_nth : ∀ (E : List (List Int)) (k c : Nat) (e : List Int), (∀ x ∈ E, x.length = 7) → E[k]? = some e → c < 7 → nth E.flatten (7 * k + c) = nth e c
  | [], k, c, e, _, h, _ => by simp at h
  | x :: E, 0, c, e, h7, h, hc => by
    simp at h; subst h
    rw [List.flatten_cons, Nat.mul_zero, Nat.zero_add, nth_app_left _ _ _ (by rw [h7 _ List.mem_cons_self]; exact hc)]
  | x :: E, k + 1, c, e, h7, h, hc => by
    have hx := h7 x List.mem_cons_self
    rw [List.flatten_cons, show 7 * (k + 1) + c = x.length + (7 * k + c) by rw [hx]; omega, nth_app_right]
    exact flat_nth E k c e (fun y hy => h7 y (List.mem_cons_of_mem _ hy)) (by simpa using h) hc
theorem recs_seven : ∀ (l : List Tg) (s : Ab), ∀ x ∈ recs s l, x.length = 7
  | [], s, x, h => by simp [recs] at h
  | .nl :: t, s, x, h => recs_seven t _ x h
  | .seg zs :: t, s, x, h => by
    rw [recs] at h
    rcases List.mem_cons.1 h with rfl | h
    · rfl
    · exact recs_seven t _ x h
theorem match_len {P : Stt} : ∀ (l : List Tg) (A : Ab) (E : List (List Int)), Match P A l E → E.length = nsg l
  | [], A, E, h => by rw [show E = [] from h]; rfl
  | .nl :: t, A, E, h => match_len t A.nl E h
  | .seg zs :: t, A, [], h => h.elim
  | .seg zs :: t, A, e :: E, h => by have := match_len t _ E h.2; simp [nsg, this]
/-- bounds of what the reader sums up, at byte pos -/
structure RBd (A : Ab) (pos : Nat) : Prop where
  l0 : 0 ≤ A.ln
  l1 : A.ln ≤ pos
  c0 : -(1099511627776 + 1073741824 * (pos : Int)) ≤ A.col
  c1 : A.col ≤ 1099511627776 + 1073741824 * (pos : Int)
  s0 : -(1099511627776 + 1073741824 * (pos : Int)) ≤ A.src
  s1 : A.src ≤ 1099511627776 + 1073741824 * (pos : Int)
  o0 : -(1099511627776 + 1073741824 * (pos : Int)) ≤ A.ol
  o1 : A.ol ≤ 1099511627776 + 1073741824 * (pos : Int)
  x0 : -(1099511627776 + 1073741824 * (pos : Int)) ≤ A.oc
  x1 : A.oc ≤ 1099511627776 + 1073741824 * (pos : Int)
  n0 : -(1099511627776 + 1073741824 * (pos : Int)) ≤ A.on
  n1 : A.on ≤ 1099511627776 + 1073741824 * (pos : Int)
theorem RBd.nl {A : Ab} {pos : Nat} (h : RBd A pos) : RBd A.nl (pos + 1) := by
  obtain ⟨a1, a2, a3, a4, a5, a6, a7, a8, a9, a10, a11, a12⟩ := h
  constructor <;> simp only [Ab.nl] <;> omega
theorem RBd.up {A : Ab} {pos q : Nat} (h : RBd A pos) (hq : pos ≤ q) : RBd A q := by
  obtain ⟨a1, a2, a3, a4, a5, a6, a7, a8, a9, a10, a11, a12⟩ := h
  constructor <;> omega
theorem nth_bnd {zs : List Int} (h : ∀ z ∈ zs, Bnd z) (i : Nat) : Bnd (nth zs i) := by
  rcases Nat.lt_or_ge i zs.length with hj | hj
  · exact h _ (nth_mem _ _ hj)
  · rw [nth_out _ _ hj]; unfold Bnd; omega
theorem RBd.seg {A : Ab} {pos q : Nat} {zs : List Int} (h : RBd A pos) (hz : ∀ z ∈ zs, Bnd z) (hq : pos + 1 ≤ q) : RBd (A.seg zs) q := by
  obtain ⟨a1, a2, a3, a4, a5, a6, a7, a8, a9, a10, a11, a12⟩ := h
  have b0 := nth_bnd hz 0
  have b1 := nth_bnd hz 1
  have b2 := nth_bnd hz 2
  have b3 := nth_bnd hz 3
  have b4 := nth_bnd hz 4
  unfold Bnd at b0 b1 b2 b3 b4
  constructor <;> simp only [Ab.seg] <;> omega
/-- the reader at byte pos, sg segments read; the tokens l ahead, p: a comma may stand ahead -/
structure Rd (P : Stt) (az : List Int) (E : List (List Int)) (l : List Tg) (p : Bool) (A : Ab) (pos sg : Nat) : Prop where
  txt : az.drop pos = txg p l
  le : pos ≤ az.length
  mt : Match P A l (E.drop sg)
  sg : sg ≤ E.length
  ws : WS l
  bd : AllB Bnd l
  rb : RBd A pos
section
variable {P : Stt} {az : List Int} {E : List (List Int)} {t : List Tg} {p : Bool} {A : Ab} {pos sg : Nat}
theorem Rd.fin (h : Rd P az E [] p A pos sg) : pos = az.length ∧ sg = E.length := by
  have h1 := congrArg List.length h.txt
  have h2 := congrArg List.length (show E.drop sg = [] from h.mt)
  have h3 := h.le
  have h4 := h.sg
  simp [txg] at h1 h2
  omega
theorem Rd.nl (h : Rd P az E (.nl :: t) p A pos sg) : pos < az.length ∧ nth az pos = 59 ∧ Rd P az E t false A.nl (pos + 1) sg := by
  obtain ⟨h1, h2, h3⟩ := drop_head (show az.drop pos = 59 :: txg false t from by rw [h.txt]; cases p <;> rfl)
  exact ⟨h1, h2, ⟨h3, h1, h.mt, h.sg, fun zs hz => h.ws zs (List.mem_cons_of_mem _ hz), fun zs hz => h.bd zs (List.mem_cons_of_mem _ hz), h.rb.nl⟩⟩
theorem Rd.comma {zs : List Int} (h : Rd P az E (.seg zs :: t) true A pos sg) : pos < az.length ∧ nth az pos = 44 ∧ Rd P az E (.seg zs :: t) false A (pos + 1) sg := by
  obtain ⟨h1, h2, h3⟩ := drop_head (show az.drop pos = 44 :: (encL zs ++ txg true t) from h.txt)
  exact ⟨h1, h2, ⟨h3, h1, h.mt, h.sg, h.ws, h.bd, h.rb.up (Nat.le_succ _)⟩⟩
theorem Rd.seg {zs : List Int} (h : Rd P az E (.seg zs :: t) false A pos sg) : ∃ e, E[sg]? = some e ∧ OKr P (A.seg zs) zs.length e ∧ Rd P az E t true (A.seg zs) (pos + (encL zs).length) (sg + 1) := by
  have hm := h.mt
  have hws := h.ws zs List.mem_cons_self
  obtain ⟨h1, h2⟩ := drop_past (X := encL zs) (R := txg true t) h.txt h.le
  have hpos := encL_pos (zl := zs) (by omega)
  match hE : E.drop sg, hm with
  | e :: E', hm =>
    have hlt : sg < E.length := by
      rcases Nat.lt_or_ge sg E.length with h1 | h1
      · exact h1
      · rw [List.drop_eq_nil_of_le h1] at hE; cases hE
    rw [List.drop_eq_getElem_cons hlt] at hE
    injection hE with e1 e2
    refine ⟨e, by rw [List.getElem?_eq_getElem hlt, e1], hm.1, ⟨h1, h2, ?_, hlt, fun zs hz => h.ws zs (List.mem_cons_of_mem _ hz), fun zs hz => h.bd zs (List.mem_cons_of_mem _ hz), h.rb.seg (h.bd zs List.mem_cons_self) (by omega)⟩⟩
    rw [e2]; exact hm.2
end
theorem txg_true_seg (zs : List Int) (t : List Tg) : txg true (.seg zs :: t) = 44 :: txg false (.seg zs :: t) := rfl
/-- the tokens that the appended text shows -/
def outM (P p : Stt) (L s : Nat) (a b c d : Int) (r : List Int) (rest : List Tg) : List Tg := match r with
  | [] => .seg (hdn P p L s a b c d) :: ren (P.on - p.on) rest
  | e :: _ => .seg (hdn P p L s a b c d ++ [e + (P.on - p.on)]) :: rest
theorem ren_ws (δ : Int) : ∀ l, WS l → WS (ren δ l)
  | [], h => h
  | .nl :: t, h => fun zs hz => by
    rw [ren] at hz
    rcases List.mem_cons.1 hz with hz | hz
    · cases hz
    · exact ren_ws δ t (fun zs hz => h zs (List.mem_cons_of_mem _ hz)) zs hz
  | .seg zs :: t, h => fun ys hy => by
    rw [ren] at hy
    split at hy
    · rcases List.mem_cons.1 hy with hy | hy
      · injection hy with hy; subst hy; rw [List.length_set]; exact h zs List.mem_cons_self
      · exact h ys (List.mem_cons_of_mem _ hy)
    · rcases List.mem_cons.1 hy with hy | hy
      · injection hy with hy; subst hy; exact h ys List.mem_cons_self
      · exact ren_ws δ t (fun zs hz => h zs (List.mem_cons_of_mem _ hz)) ys hy
theorem ren_bd (δ : Int) (hδ : -33554432 ≤ δ ∧ δ ≤ 33554432) : ∀ l, AllB P12 l → AllB Bnd (ren δ l)
  | [], h => fun zs hz => by simp [ren] at hz
  | .nl :: t, h => fun zs hz => by
    rw [ren] at hz
    rcases List.mem_cons.1 hz with hz | hz
    · cases hz
    · exact ren_bd δ hδ t (fun zs hz => h zs (List.mem_cons_of_mem _ hz)) zs hz
  | .seg zs :: t, h => fun ys hy z hz => by
    rw [ren] at hy
    split at hy
    · rcases List.mem_cons.1 hy with hy | hy
      · injection hy with hy; subst hy
        rcases List.mem_or_eq_of_mem_set hz with hz | rfl
        · exact p12_bnd (h zs List.mem_cons_self z hz)
        · have := nth_p12 zs (h zs List.mem_cons_self) 4
          unfold P12 at this; unfold Bnd; omega
      · exact p12_bnd (h ys (List.mem_cons_of_mem _ hy) z hz)
    · rcases List.mem_cons.1 hy with hy | hy
      · injection hy with hy; subst hy; exact p12_bnd (h ys List.mem_cons_self z hz)
      · exact ren_bd δ hδ t (fun zs hz => h zs (List.mem_cons_of_mem _ hz)) ys hy z hz
theorem mem_brks {x : Tg} {n : Nat} {t : List Tg} {zs : List Int} (h : Tg.seg zs ∈ brks n ++ t) : Tg.seg zs ∈ t := by
  rcases List.mem_append.1 h with h | h
  · have := List.eq_of_mem_replicate h; cases this
  · exact h
def S24 (s : Stt) : Prop := (-16777216 ≤ s.gc ∧ s.gc ≤ 16777216) ∧ (-16777216 ≤ s.si ∧ s.si ≤ 16777216) ∧ (-16777216 ≤ s.ol ∧ s.ol ≤ 16777216) ∧ (-16777216 ≤ s.oc ∧ s.oc ≤ 16777216) ∧ (-16777216 ≤ s.on ∧ s.on ≤ 16777216)
/-- the tokens' text from the first segment on, its four numbers h4 -/
def cutT (δ : Int) (r : List Int) (rest : List Tg) (h4 : List Int) : List Int := match r with
  | [] => txg false (.seg h4 :: ren δ rest)
  | e :: _ => txg false (.seg (h4 ++ [e + δ]) :: rest)
/-- the start of the reader -/
theorem rd_start (P p : Stt) (L s n : Nat) (a b c d : Int) (r : List Int) (rest : List Tg) (az Y : List Int) (nm : Option (List Int × Int × List Int)) (lb : Int) (ds ks : List Int) (hP : P.gl = L) (hr : r = [] ∨ ∃ e, r = [e])
    (ht : toks ds ks n = brks s ++ .seg (a :: b :: c :: d :: r) :: rest) (hd : ∀ k, P12 (nth ds k)) (hP4 : S24 P) (hp4 : S24 p)
    (hcut : ∀ (h4 : List Int), cutT (P.on - p.on) r rest h4 = encL h4 ++ tailY (P.on - p.on) Y nm)
    (haz : az = List.replicate L 59 ++ (List.replicate s 59 ++ (cmq (if s = 0 then (if L = 0 then lb else 59) else 59) ++ (encs ((if s = 0 then P.gc + a else a) - (if L = 0 ∧ s = 0 then p.gc else 0)) (P.si + b - p.si) (P.ol + c - p.ol) (P.oc + d - p.oc) ++ tailY (P.on - p.on) Y nm)))) :
    ∃ (l : List Tg) (p0 : Bool), Rd P az (recs z0 (toks ds ks n)) l p0 ⟨0, p.gc, p.si, p.ol, p.oc, p.on⟩ 0 0 := by
  have hws := toks_ws ds ks n
  have hall := toks_all (P := P12) ds ks hd n
  rw [ht] at hws hall ⊢
  have hws1 := hws _ (List.mem_append_right _ List.mem_cons_self)
  have hws2 : WS rest := fun zs hz => hws zs (List.mem_append_right _ (List.mem_cons_of_mem _ hz))
  have hal1 := hall _ (List.mem_append_right _ List.mem_cons_self)
  have hal2 : AllB P12 rest := fun zs hz => hall zs (List.mem_append_right _ (List.mem_cons_of_mem _ hz))
  have hm := match_out P p L s hP a b c d r rest hr hws2
  have hh := hcut (hdn P p L s a b c d)
  unfold S24 at hP4 hp4
  have ha : P12 a := hal1 a (by simp)
  have hb : P12 b := hal1 b (by simp)
  have hc : P12 c := hal1 c (by simp)
  have hdd : P12 d := hal1 d (by simp)
  unfold P12 at ha hb hc hdd
  have hhd : ∀ z ∈ hdn P p L s a b c d, Bnd z := by
    intro z hz
    unfold hdn at hz
    simp only [List.mem_cons, List.not_mem_nil, or_false] at hz
    unfold Bnd
    rcases hz with rfl | rfl | rfl | rfl
    · split <;> split <;> omega
    · omega
    · omega
    · omega
  have hM : txg false (outM P p L s a b c d r rest) = encL (hdn P p L s a b c d) ++ tailY (P.on - p.on) Y nm := by
    rw [← hh]; unfold outM cutT; rcases r with _ | ⟨e, r⟩ <;> rfl
  have hT : txg true (outM P p L s a b c d r rest) = 44 :: (encL (hdn P p L s a b c d) ++ tailY (P.on - p.on) Y nm) := by
    rw [← hM]; unfold outM; rcases r with _ | ⟨e, r⟩ <;> rfl
  have hml : WS (outM P p L s a b c d r rest) ∧ AllB Bnd (outM P p L s a b c d r rest) := by
    unfold outM
    rcases hr with rfl | ⟨e, rfl⟩
    · refine ⟨fun zs hz => ?_, fun zs hz => ?_⟩
      · rcases List.mem_cons.1 hz with hz | hz
        · injection hz with hz; subst hz; exact .inr (.inl rfl)
        · exact ren_ws _ _ hws2 zs hz
      · rcases List.mem_cons.1 hz with hz | hz
        · injection hz with hz; subst hz; exact hhd
        · exact ren_bd _ (by omega) _ hal2 zs hz
    · have he : P12 e := hal1 e (by simp)
      unfold P12 at he
      refine ⟨fun zs hz => ?_, fun zs hz => ?_⟩
      · rcases List.mem_cons.1 hz with hz | hz
        · injection hz with hz; subst hz; exact .inr (.inr rfl)
        · exact hws2 zs hz
      · rcases List.mem_cons.1 hz with hz | hz
        · injection hz with hz; subst hz
          intro z hz
          rcases List.mem_append.1 hz with hz | hz
          · exact hhd z hz
          · simp at hz; subst hz; unfold Bnd; omega
        · exact fun z h => p12_bnd (hal2 zs hz z h)
  have hcq : ∀ x, cmq x = [] ∨ cmq x = [44] := by intro x; unfold cmq; split <;> simp
  have h59 : cmq 59 = [] := by simp [cmq]
  refine ⟨brks L ++ (brks s ++ outM P p L s a b c d r rest), decide (cmq lb ≠ []), ⟨?_, Nat.zero_le _, ?_, Nat.zero_le _, fun zs hz => hml.1 zs (mem_brks (x := .nl) (mem_brks (x := .nl) hz)), fun zs hz => hml.2 zs (mem_brks (x := .nl) (mem_brks (x := .nl) hz)), ?_⟩⟩
  · rw [List.drop_zero, haz, txg_brks, txg_brks]
    congr 2
    have e4 : encs ((if s = 0 then P.gc + a else a) - (if L = 0 ∧ s = 0 then p.gc else 0)) (P.si + b - p.si) (P.ol + c - p.ol) (P.oc + d - p.oc) = encL (hdn P p L s a b c d) := by
      rw [← encL_four]; rfl
    rw [e4]
    by_cases h1 : s = 0
    · by_cases h2 : L = 0
      · rw [if_pos h1, if_pos h2, if_pos h1, if_pos h2]
        rcases hcq lb with h | h
        · rw [h]; simp [hM]
        · rw [h]; simp [hT]
      · rw [if_pos h1, if_neg h2, if_pos h1, if_neg h2, h59, hM]; rfl
    · rw [if_neg h1, if_neg h1, h59, hM]; rfl
  · rcases hr with rfl | ⟨e, rfl⟩
    · exact hm
    · exact hm
  · constructor <;> simp only <;> omega
theorem cut_of2 (δ : Int) (s : Nat) (a b c d : Int) (r : List Int) (rest : List Tg) (fn : Int) (hr : r = [] ∨ ∃ e, r = [e]) (h : FN (brks s ++ .seg (a :: b :: c :: d :: r) :: rest) fn) :
    ∃ nm, Cut (encL r ++ txg true rest) nm ∧ (match nm with | none => fn = -1 | some (mid, e, _) => fn = (s + (encs a b c d).length + mid.length : Nat) ∧ ∃ zs, Tg.seg zs ∈ brks s ++ .seg (a :: b :: c :: d :: r) :: rest ∧ e ∈ zs) ∧
      ∀ (h4 : List Int), (match r with
      | [] => txg false (.seg h4 :: ren δ rest)
      | e :: _ => txg false (.seg (h4 ++ [e + δ]) :: rest)) = encL h4 ++ tailY δ (encL r ++ txg true rest) nm := by
  rcases h with ⟨rfl, hn⟩ | ⟨l1, a1, b1, c1, d1, e1, l2, hl, hn, hf⟩
  · have hr0 : r = [] := by
      rcases hr with h | ⟨e, rfl⟩
      · exact h
      · exact absurd rfl (hn _ (List.mem_append_right _ List.mem_cons_self))
    subst hr0
    refine ⟨none, .no, rfl, fun h4 => ?_⟩
    have hnr : NoN rest := fun zs hz => hn zs (List.mem_append_right _ (List.mem_cons_of_mem _ hz))
    simp [txg, tailY, encL, ren_non δ rest hnr]
  · -- l1 starts with the breaks
    have hsplit : ∀ (s : Nat) (l1 : List Tg), brks s ++ .seg (a :: b :: c :: d :: r) :: rest = l1 ++ .seg [a1, b1, c1, d1, e1] :: l2 → (l1 = brks s ∧ a :: b :: c :: d :: r = [a1, b1, c1, d1, e1] ∧ rest = l2) ∨ ∃ m1, l1 = brks s ++ .seg (a :: b :: c :: d :: r) :: m1 ∧ rest = m1 ++ .seg [a1, b1, c1, d1, e1] :: l2 := by
      intro s
      induction s with
      | zero =>
        intro l1 h
        rcases l1 with _ | ⟨x, m1⟩
        · simp [brks] at h
          exact .inl ⟨rfl, by simp [h.1], h.2⟩
        · simp [brks] at h
          exact .inr ⟨m1, by rw [← h.1]; rfl, h.2⟩
      | succ s ih =>
        intro l1 h
        rcases l1 with _ | ⟨x, m1⟩
        · simp [brks, List.replicate_succ] at h
        · have h' : Tg.nl = x ∧ brks s ++ .seg (a :: b :: c :: d :: r) :: rest = m1 ++ .seg [a1, b1, c1, d1, e1] :: l2 := by
            simpa [brks, List.replicate_succ] using h
          rcases ih m1 h'.2 with ⟨h1, h2, h3⟩ | ⟨m2, h1, h2⟩
          · exact .inl ⟨by rw [← h'.1, h1]; rfl, h2, h3⟩
          · exact .inr ⟨m2, by rw [← h'.1, h1]; rfl, h2⟩
    rcases hsplit s l1 hl with ⟨rfl, h2, rfl⟩ | ⟨m1, rfl, rfl⟩
    · simp only [List.cons.injEq] at h2
      obtain ⟨rfl, rfl, rfl, rfl, rfl⟩ := h2
      refine ⟨some ([], e1, txg true rest), .yes _ _ _ (by simp [encL]), ⟨?_, _, List.mem_append_right _ List.mem_cons_self, by simp⟩, fun h4 => ?_⟩
      · rw [hf, txg_brks]
        simp [txg, encL_four]
      · simp [txg, tailY, encL]
    · have hr0 : r = [] := by
        rcases hr with h | ⟨e, rfl⟩
        · exact h
        · exact absurd rfl (hn _ (List.mem_append_right _ List.mem_cons_self))
      subst hr0
      have hm1 : NoN m1 := fun zs hz => hn zs (List.mem_append_right _ (List.mem_cons_of_mem _ hz))
      refine ⟨some (txg true (m1 ++ [.seg [a1, b1, c1, d1]]), e1, txg true l2), .yes _ _ _ ?_, ⟨?_, [a1, b1, c1, d1, e1], by simp, by simp⟩, fun h4 => ?_⟩
      · rw [txg_app, txg_app]
        simp [encL, txg]
      · rw [hf, List.append_assoc, txg_brks]
        show ((_ ++ txg _ (Tg.seg [a, b, c, d] :: (m1 ++ [Tg.seg [a1, b1, c1, d1]]))).length : Int) = _
        have : ∀ q : Bool, q = false → (txg q (Tg.seg [a, b, c, d] :: (m1 ++ [Tg.seg [a1, b1, c1, d1]]))) = encs a b c d ++ txg true (m1 ++ [Tg.seg [a1, b1, c1, d1]]) := by
          intro q hq; subst hq; simp [txg, encL_four]
        rw [this _ (by split <;> rfl)]
        simp; omega
      · simp only [txg, tailY, encL]
        rw [ren_app δ _ _ hm1, ren, if_pos (show [a1, b1, c1, d1, e1].length = 5 from rfl), txg_app, txg_app]
        simp [txg, encL, nth]
theorem chunk_txt (q : Nat) (a b c d : Int) (r : List Int) (rest : List Tg) : txg false (brks q ++ .seg (a :: b :: c :: d :: r) :: rest) = List.replicate q 59 ++ (encs a b c d ++ (encL r ++ txg true rest)) := by
  rw [txg_brks]
  have e : (if q = 0 then false else false) = false := by split <;> rfl
  rw [e]
  have e2 : encL (a :: b :: c :: d :: r) = encs a b c d ++ encL r := by rw [← encL_four, ← encL_app]; rfl
  simp [txg, e2]
theorem toks_txt_len (ds ks : List Int) (n : Nat) (hn : n ≤ 4096) : (txg false (toks ds ks n)).length ≤ 294912 := by
  have h1 := txg_len (toks ds ks n) false (toks_ws ds ks n)
  have h2 := toks_len ds ks n
  omega
/-- what the chunk's text and its first name's place tell -/
theorem chunk_cut (ds ks : List Int) (n : Nat) (fn δ : Int) (hd : ∀ k, P12 (nth ds k)) (hn : 1 ≤ n) (h : FN (toks ds ks n) fn) :
    ∃ (q : Nat) (a b c d : Int) (r : List Int) (rest : List Tg) (Y : List Int) (nm : Option (List Int × Int × List Int)), toks ds ks n = brks q ++ .seg (a :: b :: c :: d :: r) :: rest ∧ (r = [] ∨ ∃ e, r = [e]) ∧ q ≤ 1 ∧
      txg false (toks ds ks n) = List.replicate q 59 ++ (encs a b c d ++ Y) ∧ P12 a ∧ P12 b ∧ P12 c ∧ P12 d ∧ Cut Y nm ∧
      (match nm with | none => fn = -1 | some (mid, e, _) => fn = (q + (encs a b c d).length + mid.length : Nat) ∧ P12 e) ∧
      ∀ (h4 : List Int), cutT δ r rest h4 = encL h4 ++ tailY δ Y nm := by
  obtain ⟨m, rfl⟩ : ∃ m, n = m + 1 := ⟨n - 1, by omega⟩
  obtain ⟨q, r, rest, hq, hr, ht⟩ := toks_head ds ks m
  have hall := toks_all (P := P12) ds ks hd (m + 1)
  rw [ht] at h hall
  obtain ⟨nm, h1, h2, h3⟩ := cut_of2 δ q _ _ _ _ r rest fn hr h
  refine ⟨q, _, _, _, _, r, rest, _, nm, ht, hr, hq, by rw [ht]; exact chunk_txt _ _ _ _ _ _ _, hd _, hd _, hd _, hd _, h1, ?_, fun h4 => by have := h3 h4; rcases hr with rfl | ⟨e, rfl⟩ <;> exact this⟩
  match nm, h2 with
  | none, h2 => exact h2
  | some (mid, e, Y2), h2 =>
    obtain ⟨h4, zs, h5, h6⟩ := h2
    exact ⟨h4, hall zs h5 e h6⟩
end Go.Proofs.YtoegmcakolidbaaDoor
