/-
  FnAllocateSourceIndexScript's walk at this seat. No statement of the seat is proved here.
-/
import Derived.Test.YtfhhjahaolgoaaaZb
import Derived.Deep.DeepCutAuto
import Derived.Deep.CutBlock
import Derived.Laws.Cover3
import Derived.Lib.Strings
namespace Go.Proofs.Ytfhhjahaolgoaaa
open Go.RowKit
set_option linter.unusedVariables false

theorem toList_inj {a b : ByteArray} (h : a.toList = b.toList) : a = b := by
  rw [Lib.toList_data, Lib.toList_data] at h
  cases a with | mk x => cases b with | mk y => simp only at h; rw [Array.toList_inj.1 h]
theorem info9 : (Try.prog.info? 9).map (fun i => (i.zero, i.size, i.bytes)) = some (some (.string e0), 1, 16) := by kernel_rfl

/-- the texts, copied -/
def Cp (w : World) (n : Nat) (ts : List ByteArray) (a : Value) (wc : World) : Prop := ∃ ao cap, a = .slice ao n cap ∧ InS wc ao ts ∧ Below w.heap.size w wc

/-- the base: 0 at first, then 1 -/
def bs (i : Nat) : Int := if i = 0 then 0 else 1

structure LsP (wc : World) (n G s c bm : Nat) (seen : List ByteArray) (i : Nat) (wr : World) : Prop where
  own : OwnT 9 wr G (.slice (some ⟨G, 0, none⟩) seen.length n) seen
  st : St wr s c bm (G + 1) seen
  nd : seen.Nodup
  len : seen.length ≤ i
  bel : Below wc.heap.size wc wr
  size : G + 1 ≤ wr.heap.size
  ap : wc.heap.size ≤ s ∧ wc.heap.size ≤ c ∧ wc.heap.size ≤ bm ∧ wc.heap.size ≤ G ∧ s < G ∧ c < G ∧ bm < G

/-- behind the search -/
def Rk (seen : List ByteArray) (t : ByteArray) (a : Value) : Prop := (a = .int .i64 (-1) ∧ ¬ t ∈ seen) ∨ ∃ r : Nat, a = .int .i64 (r : Int) ∧ seen[r]? = some t
/-- behind the append -/
def Rn (wc : World) (n G s c bm : Nat) (seen : List ByteArray) (t : ByteArray) (i : Nat) (v a : Value) (wx : World) : Prop :=
  ∃ r : Nat, a = .int .i64 (r : Int) ∧ v = .slice (some ⟨G, 0, none⟩) (ext seen t).length n ∧ (ext seen t)[r]? = some t ∧ (∃ seen0, ext seen0 t = ext seen t ∧ St wx s c bm (G + 1) seen0 ∧ seen0.length < 60000) ∧
    OwnT 9 wx G (.slice (some ⟨G, 0, none⟩) (ext seen t).length n) (ext seen t) ∧ Below wc.heap.size wc wx ∧ G + 1 ≤ wx.heap.size

set_option maxHeartbeats 2000000 in
set_option maxRecDepth 100000 in
theorem law_any (ao : Option Addr) (n cap : Nat) (ts : List ByteArray) (hn : ts.length = n) (hm : n ≤ maxLen) (hnil : ao = none → n = 0) (hts : ∀ t ∈ ts, t.size ≤ maxLen) (w : World) (hin : InS w ao ts) :
    Calls Try.prog 3 #[.slice ao n cap] w fun e w' => e = .returned (.bool true) ∧ Below w.heap.size w w' := by
  have HZ := Lib.hid (zb_any ao n cap ts hn hm w hin)
  have HIN := Lib.hid hin
  go_enter Try.func3, Try.ntmps3
  go_upto_if 17 with (go_at_call 4; refine HZ.out.mono ?_; rintro e w1 ⟨⟨b, rfl⟩, rfl⟩)
  cases b
  · go_wp2_with fail
    go_ret
    exact ⟨rfl, Below.refl _ _⟩
  by_cases h4 : (n : Int) > 4096
  · go_wp2_with fail
    go_ret
    exact ⟨rfl, Below.refl _ _⟩
  have h4' : decide ((4096 : Int) < (n : Int)) = false := by simp; omega
  go_wp2_with fail
  go_loopg [3, 4] n (fun k a b wr => ∃ (x : Int) (i : Nat), a = .int .i64 x ∧ b = .int .i64 (i : Int) ∧ i ≤ n ∧ n - i ≤ k ∧ wr = w1)
  case atStart => exact ⟨_, 0, rfl, rfl, by omega, by omega, rfl⟩
  case round =>
    obtain ⟨x, i, rfl, rfl, hi, hk, rfl⟩ := hrel
    obtain ⟨wz, rfl⟩ : ∃ wz : World, wz = wr := ⟨_, rfl⟩
    rcases (show n = i ∨ i < n by omega) with he | hlt
    · obtain rfl := he
      clear hi hk
      by_cases h5 : x > 1048576
      · have h6 : decide ((1048576 : Int) < x) = true := by simp; omega
        go_wp2_with fail
        go_ret
        exact ⟨rfl, Below.refl _ _⟩
      · have h6 : decide ((1048576 : Int) < x) = false := by simp; omega
        obtain ⟨q, hq⟩ : ∃ q, (!ao.isNone) = q := ⟨_, rfl⟩
        have hqr : (binOp .neq 22 (.slice ao n cap) (.slice none 0 0)).run Try.prog wz = .ok (.bool q) wz := by rw [← hq]; exact run_neq_slice_nil wz 22 9 ao n cap Try.underlying22
        have HQ := Lib.hid hq
        clear hq
        go_upto_if 40 with fail
        go_cut [0, 5, 6] (fun a b c wc => Cp wz n ts a wc)
        case first =>
          cases q
          · clear hnil
            go_wp2_with fail
            go_meet
            exact ⟨ao, cap, rfl, HIN.out, Below.refl _ _⟩
          · go_wp2_with (at_make; refine wpList_make_strs wz rfl _ _ 22 rfl 9 e0 16 Try.underlying22 info9 n rfl rfl (by omega) hm ?_; intro w2 hb2 hg2)
            have hlt2 := hb2.lt
            have hbel2 : Below wz.heap.size wz w2 := (Below.refl _ _).grown hg2 (Nat.le_refl _) (fun k hk => by cases hk)
            have HB2 : Hid (Blk w2 wz.heap.size 9 (strs (cpyS e0 ts 0)) ∧ Below wz.heap.size wz w2) := Lib.hid ⟨by rw [cpyS_zero, hn]; exact hb2, hbel2⟩
            clear hb2 hbel2 hg2
            go_loopg [6] n (fun k a wx => ∃ i : Nat, a = .int .i64 (i : Int) ∧ i ≤ n ∧ n - i ≤ k ∧ Hid (Blk wx wz.heap.size 9 (strs (cpyS e0 ts i)) ∧ Below wz.heap.size wz wx))
            case atStart => exact ⟨0, rfl, by omega, by omega, HB2⟩
            case round =>
              obtain ⟨i, rfl, hi, hk, HB⟩ := hrel
              rcases (show n = i ∨ i < n by omega) with he | hlt
              · obtain rfl := he
                go_wp2_with fail
                go_meet
                have h1 := HB.out.1
                rw [← hn, cpyS_end] at h1
                exact ⟨_, _, rfl, h1.inS, HB.out.2⟩
              · obtain ⟨b, off, hx, hblt, hc⟩ := HIN.out.at (i := i) (by omega)
                cases hx
                have hc' := (HB.out.2.cell (p := ⟨b, off + i, none⟩) hblt).trans hc
                have hcl := cpyS_length e0 ts i (by omega)
                have hs := HB.out.1.str (i := i) (by omega)
                have hf := HB.out.1.free i
                have hB2 := HB.out.1.putS i (tth ts i)
                rw [cpyS_step e0 ts i (by omega)] at hB2
                have HN := Lib.hid (And.intro hB2 (HB.out.2.setCell (p := ⟨wz.heap.size, i, none⟩) (Nat.le_refl _) (.string (tth ts i))))
                clear HB hB2 hc hcl
                go_wp2_with fail
                go_roundg (n - (i + 1))
                case measure => omega
                case rel => exact ⟨i + 1, by go_num, by omega, Nat.le_refl _, HN⟩
        case rest =>
          obtain ⟨wq, rfl⟩ : ∃ wq : World, wq = wc := ⟨_, rfl⟩
          obtain ⟨a1, cap1, rfl, hin1, hb1⟩ := hcut
          have HIN1 := Lib.hid hin1
          clear hin1
          go_wp2_with (first
            | (go_at_call 5; refine (new_any wq).mono ?_; rintro e w3 ⟨s, c, bm, rfl, hx3, hs3, hc3, hbm3, hsc3⟩; have HSC := Lib.hid (And.intro hx3 hsc3); clear hx3 hsc3)
            | (at_make; obtain ⟨i0, hi0, hz0, hz1, hz2⟩ := info_parts info9; refine wpList_make_own w3 rfl _ _ 22 rfl w3.heap.size 9 i0 (.string e0) 1 Try.underlying22 hi0 hz0 hz1 .i64 .i64 (n : Int) n rfl rfl rfl (by rw [hz2]; omega) hm (Nat.le_refl _) ?_; intro w4 ho4 hg4))
          obtain ⟨G, hG⟩ : ∃ G, w3.heap.size = G := ⟨_, rfl⟩
          rw [hG]
          have H0 : Hid (LsP wq n G s c bm [] 0 w4) := Lib.hid (by
            obtain ⟨hx3, hsc3⟩ := HSC.out
            have hlt := ho4.lt G (by rw [← hG]; rfl)
            have hb4 : Below wq.heap.size wq w4 := (hx3.below (Nat.le_refl _) (by simp)).grown hg4 hx3.size (fun k hk => by cases hk)
            have x4 : Ex w3 [] w4 := (Ex.refl w3 []).gb hg4 (fun k hk => by cases hk)
            rw [hG] at ho4
            refine ⟨ho4, ⟨0, .map [], Nat.le_refl _, Know.nil kl, ?_⟩, List.nodup_nil, Nat.le_refl _, hb4, by omega, hs3, hc3, hbm3, by rw [← hG]; exact hx3.size, by rw [← hG]; exact (hsc3 _ (Nat.le_refl _)).ne.2.2.2⟩
            exact (hsc3 (G + 1) (by omega)).ex x4 (by simp) (by simp))
          clear ho4 hg4 HSC
          go_loopg [8, 9, 10] n (fun k a b d wr => ∃ (seen : List ByteArray) (i : Nat), a = .slice (some ⟨G, 0, none⟩) seen.length n ∧ b = .int .u32 (bs i) ∧ d = .int .i64 (i : Int) ∧ i ≤ n ∧ n - i ≤ k ∧ Hid (LsP wq n G s c bm seen i wr))
          case atStart => exact ⟨[], 0, rfl, rfl, rfl, by omega, by omega, H0⟩
          case round =>
            obtain ⟨seen, i, rfl, rfl, rfl, hi, hk, HL⟩ := hrel
            obtain ⟨wy, rfl⟩ : ∃ wy : World, wy = wr := ⟨_, rfl⟩
            rcases (show n = i ∨ i < n by omega) with he | hlt
            · obtain rfl := he
              go_wp2_with fail
              go_ret
              exact ⟨rfl, hb1.trans (HL.out.bel.mono hb1.size)⟩
            · have hlen := HL.out.len
              obtain ⟨b, off, rfl, hblt, hc⟩ := HIN1.out.at (i := i) (by omega)
              have hc' := (HL.out.bel.cell (p := ⟨b, off + i, none⟩) hblt).trans hc
              obtain ⟨t, ht⟩ : ∃ t, tth ts i = t := ⟨_, rfl⟩
              rw [ht] at hc hc'
              clear hc
              obtain ⟨m, hmm⟩ : ∃ m, seen.length = m := ⟨_, rfl⟩
              rw [hmm]
              go_upto_block 6 with fail
              go_cut [12, 13] (fun a b wx => wx = wy ∧ Rk seen t a)
              case first =>
                go_wp2_with fail
                go_loopg [12, 13] m (fun k a b wx => ∃ j : Nat, a = .int .i64 (-1) ∧ b = .int .i64 (j : Int) ∧ j ≤ m ∧ m - j ≤ k ∧ Hid (∀ j', j' < j → tth seen j' ≠ t) ∧ wx = wy)
                case atStart => exact ⟨0, rfl, rfl, by omega, by omega, Lib.hid (fun j' h => by omega), rfl⟩
                case round =>
                  obtain ⟨j, rfl, rfl, hj, hjk, HN, rfl⟩ := hrel
                  rcases (show m = j ∨ j < m by omega) with he | hjlt
                  · obtain rfl := he
                    go_wp2_with fail
                    go_meet
                    refine ⟨rfl, .inl ⟨rfl, fun hmem => ?_⟩⟩
                    obtain ⟨q, hq, e⟩ := List.getElem_of_mem hmem
                    exact HN.out q (by omega) (by rw [tth_get seen q hq]; exact e)
                  · have hown := HL.out.own
                    rw [hmm] at hown
                    obtain ⟨g, hg, hcj⟩ := hown.at (i := j) (by omega)
                    cases hg
                    clear hown
                    obtain ⟨y, hy⟩ : ∃ y, tth seen j = y := ⟨_, rfl⟩
                    rw [hy] at hcj
                    by_cases hyt : y.toList = t.toList
                    · have hb : (y.toList == t.toList) = true := beq_iff_eq.2 hyt
                      have HE := Lib.hid hyt
                      clear hyt
                      go_wp2_with fail
                      go_meet
                      exact ⟨rfl, .inr ⟨j, rfl, by rw [tth_some seen j (by omega), hy, toList_inj HE.out]⟩⟩
                    · have hb : (y.toList == t.toList) = false := beq_eq_false_iff_ne.2 hyt
                      have HE := Lib.hid hyt
                      clear hyt
                      go_wp2_with fail
                      go_roundg (m - (j + 1))
                      case measure => omega
                      case rel => exact ⟨j + 1, rfl, by go_num, by omega, Nat.le_refl _, Lib.hid (fun j' h => by
                          rcases (show j' = j ∨ j' < j by omega) with rfl | h
                          · rw [hy]; exact fun c => HE.out (by rw [c])
                          · exact HN.out j' h), rfl⟩
              case rest =>
                obtain ⟨rfl, hrk⟩ := hcut
                have HRN : Hid (∀ (r : Nat), seen[r]? = some t → Rn wq n G s c bm seen t i (.slice (some ⟨G, 0, none⟩) m n) (.int .i64 (r : Int)) wc) := Lib.hid (fun r hr => by
                  have hmem := List.mem_of_getElem? hr
                  refine ⟨r, rfl, by rw [ext_in hmem, hmm], by rw [ext_in hmem]; exact hr, ⟨seen, rfl, HL.out.st, by omega⟩, by rw [ext_in hmem]; exact HL.out.own, HL.out.bel, HL.out.size⟩)
                have HRM : Hid (¬ t ∈ seen → ∀ wx, wx.ownsRow G 9 1 (.slice (some ⟨G, 0, none⟩) (m + 1) n) (m + 1) (seen.map Value.string ++ [.string t]) → (wc.alloc (.cells #[.string t] 9)).grownBy wx (some G) → Rn wq n G s c bm seen t i (.slice (some ⟨G, 0, none⟩) (m + 1) n) (.int .i64 (m : Int)) wx) := Lib.hid (fun hno wx ho hg0 => by
                  have hap := HL.out.ap
                  have hg : wc.grownBy wx (some G) := gb_trans (World.grownBy_alloc wc _ _) hg0
                  have hx : Ex wc [G] wx := (Ex.refl wc [G]).gb hg (fun k hk => by cases hk; exact .inl (by simp))
                  obtain ⟨n', D', q1, q2, q3⟩ := HL.out.st.sc
                  have hel : (ext seen t).length = m + 1 := by rw [ext_out hno]; simp [hmm]
                  refine ⟨m, rfl, by rw [hel], by rw [ext_out hno, ← hmm]; simp, ⟨seen, rfl, ⟨n', D', q1, q2, q3.ex hx ?_ (by simp)⟩, by omega⟩, ?_, HL.out.bel.grown hg (HL.out.bel.size) (fun k hk => by cases hk; exact hap.2.2.2.1), Nat.le_trans HL.out.size hg.size⟩
                  · intro k hk
                    obtain rfl := List.mem_singleton.1 hk
                    omega
                  · rw [hel]
                    unfold OwnT
                    rw [hel, ext_out hno, List.map_append]
                    exact ho)
                have HOW : Hid ((wc.alloc (.cells #[.string t] 9)).ownsRow G 9 1 (.slice (some ⟨G, 0, none⟩) m n) m (seen.map Value.string)) := Lib.hid (by
                  have h := HL.out.own
                  unfold OwnT at h
                  rw [hmm] at h
                  exact World.ownsRow.alloc h _)
                have HNC : Hid (∀ (j : Nat) (u : Value), ([.string t] : List Value)[j]? = some u → (wc.alloc (.cells #[.string t] 9)).cell? ((⟨wc.heap.size, 0, none⟩ : Addr).add j) = some u) := Lib.hid (fun j u hj => by
                  match j, hj with
                  | 0, hj => simp at hj; subst hj; rw [show (⟨wc.heap.size, 0, none⟩ : Addr).add 0 = ⟨wc.heap.size, 0, none⟩ from rfl]; rw [blk_cell (blk_new wc _) 0]; rfl)
                obtain ⟨q, hqr, HQ2⟩ : ∃ q : Bool, (binOp .lss 3 u12 (.int .i64 0)).run Try.prog wc = .ok (.bool q) wc ∧ Hid ((q = true ∧ u12 = .int .i64 (-1) ∧ ¬ t ∈ seen) ∨ (q = false ∧ ∃ r : Nat, u12 = .int .i64 (r : Int) ∧ seen[r]? = some t)) := by
                  rcases hrk with ⟨rfl, hno⟩ | ⟨r, rfl, hr⟩
                  · exact ⟨true, by simp [go_sem], Lib.hid (.inl ⟨rfl, rfl, hno⟩)⟩
                  · exact ⟨false, by simp [go_sem], Lib.hid (.inr ⟨rfl, r, rfl, hr⟩)⟩
                clear hrk
                have hm1 : m + 1 ≤ n := by omega
                go_upto_if 86 with fail
                go_cut [8, 12] (fun v a wx => Rn wq n G s c bm seen t i v a wx)
                case first =>
                  rcases HQ2.out with ⟨rfl, rfl, hno⟩ | ⟨rfl, r, rfl, hr⟩
                  · obtain ⟨i0, hi0, hz0, hz1, hz2⟩ := info_parts info9
                    have HNO := Lib.hid hno
                    clear hno HQ2
                    go_wp2_with (at_builtin; refine wpList_append_fits (wc.alloc (.cells #[.string t] 9)) rfl (.tmp 89) (.tmp 91) 22 rfl G 9 i0 1 Try.underlying22 hi0 hz1 G m n (seen.map Value.string) rfl HOW.out ⟨wc.heap.size, 0, none⟩ 1 1 [.string t] rfl rfl HNC.out (fun u hu => by simp at hu; subst hu; rfl) hm1 ?_; intro wx ho hg)
                    go_meet
                    exact HRM.out HNO.out _ ho hg
                  · have HR2 := Lib.hid hr
                    clear hr HQ2
                    go_wp2_with fail
                    go_meet
                    exact HRN.out r HR2.out
                case rest =>
                  obtain ⟨r, rfl, rfl, hr, ⟨seen0, he0, hst, hl0⟩, ho, hbel, hsz⟩ := hcut
                  have hnd := ext_nodup (t := t) HL.out.nd
                  have hap := HL.out.ap
                  have hle := ext_le seen t
                  have hpos := ext_pos seen t
                  have hrl := (List.getElem?_eq_some_iff.1 hr).1
                  have hts' : t.size ≤ maxLen := by rw [← ht]; exact hts _ (tth_mem ts i (by omega))
                  obtain ⟨wx, rfl⟩ : ∃ wx : World, wx = wc := ⟨_, rfl⟩
                  have HA : Hid (Calls Try.prog 6 #[.pointer (some ⟨s, 0, none⟩), .string t] wx fun e w' => e = .returned (.int .u32 ((r : Int) + 1)) ∧ LsP wq n G s c bm (ext seen t) (i + 1) w') := Lib.hid (by
                    refine (alloc_any t wx hst hsz hts' hl0).mono ?_
                    rintro e w' ⟨r', rfl, hr', hx, hs'⟩
                    rw [he0] at hr' hs'
                    obtain rfl := nodup_get hnd hr hr'
                    refine ⟨rfl, ?_, hs', hnd, by omega, ?_, Nat.le_trans hsz hx.size, hap⟩
                    · rcases ho.2 with ⟨h1, _⟩ | ⟨g, cap', cur, h1, h2, h3, h4⟩
                      · cases h1
                      · refine ⟨ho.1, .inr ⟨g, cap', cur, h1, h2, hx.heap h3 ?_, h4⟩⟩
                        cases h1
                        intro hmem
                        simp at hmem
                        omega
                    · exact hbel.trans (hx.below hbel.size (by intro k hk; simp at hk; omega)))
                  obtain ⟨l, hl⟩ : ∃ l, (ext seen t).length = l := ⟨_, rfl⟩
                  have HR : Hid (∀ w', LsP wq n G s c bm (ext seen t) (i + 1) w' → Calls Try.prog 7 #[.pointer (some ⟨s, 0, none⟩)] w' fun e w'' => e = .returned (.int .i64 (1 + (l : Int))) ∧ w'' = w') := Lib.hid (fun w' h => by
                    obtain ⟨n', D', q1, q2, q3⟩ := h.st.sc
                    refine (rlen_any w' q3).mono ?_
                    rintro e w'' ⟨rfl, rfl⟩
                    refine ⟨?_, rfl⟩
                    rw [if_neg (by omega), hl]; simp)
                  rw [hl]
                  have hri : r < l := by omega
                  have hl4 : l ≤ 4097 := by omega
                  rcases Nat.eq_zero_or_pos i with h0 | hpos'
                  · have hi0 : ((i : Int) == 0) = true := by simp [h0]
                    obtain rfl : r = 0 := by omega
                    obtain rfl : l = 1 := by omega
                    have HBS : Hid (bs (i + 1) = 1) := Lib.hid (by unfold bs; rw [if_neg (by omega)])
                    have HC := Lib.hid (And.intro hle (And.intro hmm hlen))
                    have HL1 := Lib.hid hl
                    clear hnd hap hle hpos hrl hts' hst hr ho hbel hsz he0 hl0 hlen hmm hm1 h0 hl hri hl4
                    go_wp2_with (first
                      | (go_at_call 6; refine HA.out.mono ?_; rintro e w9 ⟨rfl, h9⟩; have H9 := Lib.hid h9; clear h9)
                      | (go_at_call 7; refine (HR.out w9 H9.out).mono ?_; rintro e w10 ⟨rfl, rfl⟩))
                    go_roundg (n - (i + 1))
                    case measure => omega
                    case rel => exact ⟨ext seen t, i + 1, by rw [HL1.out], by rw [HBS.out], by go_num, hlt, Nat.le_refl _, H9⟩
                  · have hi0 : ((i : Int) == 0) = false := by simp; omega
                    have hbs : bs i = 1 := by unfold bs; rw [if_neg (by omega)]
                    have HBS : Hid (bs (i + 1) = 1) := Lib.hid (by unfold bs; rw [if_neg (by omega)])
                    rw [hbs]
                    have HC := Lib.hid (And.intro hle (And.intro hmm hlen))
                    clear hnd hap hle hpos hrl hts' hst hr ho hbel hsz hbs he0 hl0 hlen hmm hm1
                    go_wp2_with (first
                      | (go_at_call 6; refine HA.out.mono ?_; rintro e w9 ⟨rfl, h9⟩; have H9 := Lib.hid h9; clear h9)
                      | (go_at_call 7; refine (HR.out w9 H9.out).mono ?_; rintro e w10 ⟨rfl, rfl⟩))
                    go_roundg (n - (i + 1))
                    case measure => omega
                    case rel => exact ⟨ext seen t, i + 1, by rw [hl], by rw [HBS.out], by go_num, hlt, Nat.le_refl _, H9⟩
    · obtain ⟨b, off, rfl, _, hc⟩ := HIN.out.at (i := i) (by omega)
      obtain ⟨t, ht⟩ : ∃ t, tth ts i = t := ⟨_, rfl⟩
      rw [ht] at hc
      obtain ⟨y, hy⟩ : ∃ y, IntKind.i64.wrap (x + (t.size : Int)) = y := ⟨_, rfl⟩
      go_wp2_with fail
      go_roundg (n - (i + 1))
      case measure => omega
      case rel => exact ⟨y, i + 1, rfl, by go_num, hlt, Nat.le_refl _, rfl⟩
end Go.Proofs.Ytfhhjahaolgoaaa
