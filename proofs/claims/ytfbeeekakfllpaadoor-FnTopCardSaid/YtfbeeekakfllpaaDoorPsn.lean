/-
  zzPositions: the positions of the runes of a text. No statement of the seat is proved here.
-/
import Derived.Test.YtfbeeekakfllpaaDoorSx
import Derived.Test.YtfbeeekakfllpaaDoorShelf
import Derived.Test.YtfbeeekakfllpaaDoorRows2
import Derived.Test.YtfbeeekakfllpaaDoorPq
import Derived.Deep.CutBlock
import Derived.Deep.Light
namespace Go.Proofs.YtfbeeekakfllpaaDoor
open Go.RowKit
set_option linter.unusedVariables false
set_option linter.unusedSimpArgs false
theorem ext_get! (s : ByteArray) (pos i : Nat) : (s.extract pos s.size).get! i = s.get! (pos + i) := by
  have hz : (s.extract pos s.size).size = s.size - pos := by simp
  by_cases h : i < s.size - pos
  · rw [get!_at _ i (by rw [hz]; exact h), get!_at s (pos + i) (by omega)]
    simp [ByteArray.getElem_extract]
  · rw [get!_out _ i (by rw [hz]; omega), get!_out s (pos + i) (by omega)]
theorem dec_ext (s : ByteArray) (pos : Nat) (h : pos < s.size) : Lib.decodeGo (s.extract pos s.size) = Utf8.decode s pos := by
  have hz : (s.extract pos s.size).size = s.size - pos := by simp
  unfold Lib.decodeGo
  rw [if_neg (by omega), Lib.decode_at, Lib.decode_at, hz, ext_get!, ext_get!, ext_get!, ext_get!]
  simp only [Nat.sub_zero, Nat.add_zero, Nat.zero_add]
theorem tabs_below {g3 g4 B : Nat} {w w' : World} (h : Lib.Utf8Tabs g3 g4 w) (hb : Below B w w') (h3 : g3 < B) (h4 : g4 < B) : Lib.Utf8Tabs g3 g4 w' :=
  ⟨fun c hc => (hb.cell (p := ⟨g3, c, none⟩) h3).trans (h.1 c hc), fun i hi => ⟨(hb.cell (p := ⟨g4, 2 * i, none⟩) h4).trans (h.2 i hi).1, (hb.cell (p := ⟨g4, 2 * i + 1, none⟩) h4).trans (h.2 i hi).2⟩⟩
theorem dri (s : ByteArray) (n : Nat) (hn : n < s.size) (w : World) (ht : Lib.Utf8Tabs 0 1 w) : Calls Tryd.prog 26 #[.string (s.extract n s.size)] w fun e w' => e = .returned (.tuple #[.int .i32 (cpt s n), .int .i64 (wd s n)]) ∧ Below w.heap.size w w' := by
  have := Tryd.utf8_DecodeRuneInString (s.extract n s.size) w ht
  rw [dec_ext s n hn] at this
  exact this
/-- the cells of a position -/
def posRow (s : ByteArray) (i : Nat) : List Value := [.int .i64 i, .int .i64 ((T s i).length : Nat), .int .i64 (U s i - U s (LS s i) : Nat)]
theorem info69 : (Tryd.prog.info? 69).map (fun i => (i.zero, i.size, i.bytes)) = some (some (.agg #[.int .i64 0, .int .i64 0, .int .i64 0]), 3, 24) := by kernel_rfl
abbrev OwnP (s : ByteArray) (w : World) (B : Nat) (v : Value) (ps : List Nat) : Prop := OwnT 69 3 w B v (ps.map (posRow s))
structure PsS (s : ByteArray) (w0 : World) (v : Value) (ps : List Nat) (n : Nat) (wr : World) : Prop where
  own : OwnP s wr w0.heap.size v ps
  len : ps.length ≤ n
  bd : ∀ p ∈ ps, Bd s p
  bel : Below w0.heap.size w0 wr
theorem PsS.push {s : ByteArray} {w0 : World} {v v' : Value} {ps : List Nat} {n : Nat} {wr w' : World} {i : Nat} (h : PsS s w0 v ps n wr) (hi : Bd s i) (ho : OwnT 69 3 w' w0.heap.size v' (ps.map (posRow s) ++ [posRow s i])) (hg : (wr.alloc (.cells (posRow s i).toArray 69)).grownBy w' v.ownBlock) : PsS s w0 v' (ps ++ [i]) (n + 1) w' := by
  refine ⟨by show OwnT 69 3 _ _ _ _; rw [List.map_append]; exact ho, by have := h.len; simp; omega, fun p hp => ?_, ?_⟩
  · rw [List.mem_append, List.mem_singleton] at hp
    rcases hp with hp | rfl
    · exact h.bd p hp
    · exact hi
  · exact h.bel.grown (gb_trans (World.grownBy_alloc wr _ _) hg) h.bel.size (fun g hg => (h.own.lt g hg).1)
theorem PsS.kept {s : ByteArray} {w0 : World} {v : Value} {ps : List Nat} {n : Nat} {wr w' : World} (h : PsS s w0 v ps n wr) (hb : Below wr.heap.size wr w') : PsS s w0 v ps n w' := ⟨h.own.kept hb, h.len, h.bd, h.bel.trans (hb.mono h.bel.size)⟩
theorem posRow_next (s : ByteArray) (i : Nat) (h : Bd s i) (hi : i < s.size) : (T s (i + wd s i)).length = (if tm s i = true then (T s i).length + 1 else (T s i).length) ∧ U s (i + wd s i) - U s (LS s (i + wd s i)) = (if tm s i = true then 0 else U s i - U s (LS s i) + un s i) := by
  obtain ⟨a1, a2, a3, a4⟩ := adv s i h.at_ hi (wd s i) (wd_pos s i hi) (Nat.le_refl _)
  rw [a2, a3, a4]
  have hu : U s (LS s i) ≤ U s i := U_mono' s h.ls
  split
  · rw [List.length_append, a2]; simp
  · exact ⟨rfl, by omega⟩
def IsPos (s : ByteArray) (w : World) (e : Ending) (w' : World) : Prop := ∃ v ps, e = .returned v ∧ PsS s w v ps (s.size + 1) w' ∧ ps ≠ []
set_option maxRecDepth 100000 in
set_option maxHeartbeats 2000000 in
theorem pos_any (s : ByteArray) (w : World) (hz : s.size ≤ 2097152) (hw : 2 ≤ w.heap.size) (ht : Lib.Utf8Tabs 0 1 w) : Calls Tryd.prog 10 #[.string s] w (IsPos s w) := by
  have HT := Lib.hid ht
  clear ht
  go_enter Tryd.func10, Tryd.ntmps10
  go_wp2_with fail
  go_loopg [3, 4, 5, 6] s.size (fun k v3 v4 v5 v6 wr => ∃ (i ln col : Nat), v4 = .int .i64 ln ∧ v5 = .int .i64 col ∧ v6 = .int .i64 i ∧ i ≤ s.size ∧ s.size - i ≤ k ∧ ln ≤ i ∧ col ≤ 2 * i ∧ Hid (Bd s i ∧ ln = (T s i).length ∧ col = U s i - U s (LS s i) ∧ ∃ ps, PsS s w v3 ps i wr))
  case atStart => exact ⟨0, 0, 0, rfl, rfl, rfl, by omega, by omega, by omega, by omega, Lib.hid ⟨Bd.zero s, rfl, rfl, [], OwnT.nil _ _ _ _, by simp, fun p hp => absurd hp (by simp), Below.refl _ _⟩⟩
  case round =>
    obtain ⟨i, ln, col, rfl, rfl, rfl, hi, hk, hln, hcol, HB⟩ := hrel
    obtain ⟨gO, rfl⟩ : ∃ gO, gO = gk := ⟨_, rfl⟩
    obtain ⟨hbd, e1, e2, ps, hP⟩ := HB.out
    have HP := Lib.hid hP
    have HBD := Lib.hid (And.intro hbd (And.intro e1 e2))
    have HR : Hid (posRow s i = [.int .i64 i, .int .i64 ln, .int .i64 col]) := Lib.hid (by unfold posRow; rw [← e1, ← e2])
    have HM : Hid ((ps.map (posRow s)).length + 1 ≤ maxLen ∧ ((ps.map (posRow s)).length + 1) * 24 ≤ 140737488355328 ∧ w.heap.size ≤ (wr.alloc (.cells #[.int .i64 i, .int .i64 ln, .int .i64 col] 69)).heap.size) := Lib.hid (by
      have := hP.len; have := hP.bel.size; simp only [List.length_map, maxLen]; refine ⟨by omega, by omega, by simp; omega⟩)
    clear hbd e1 e2 hP HB
    rcases (show s.size = i ∨ i < s.size by omega) with he | hlt
    · obtain rfl := he
      go_wp2_with (at_builtin; refine wpList_pushT (wr.alloc (.cells #[.int .i64 s.size, .int .i64 ln, .int .i64 col] 69)) rfl (.tmp 75) (.tmp 81) 53 69 3 rfl w.heap.size Tryd.underlying53 24 (.agg #[.int .i64 0, .int .i64 0, .int .i64 0]) rfl (by omega) info69 _ (ps.map (posRow s)) [.int .i64 s.size, .int .i64 ln, .int .i64 col] rfl (OwnT.gb HP.out.own (World.grownBy_alloc wr _ none) (by cases Value.ownBlock _ <;> simp)) wr.heap.size rfl (Blk.new _ _ _) rfl (by intro u hu; simp at hu; rcases hu with rfl | rfl | rfl <;> rfl) HM.out.1 HM.out.2.1 HM.out.2.2 ?_; intro v' w4 ho4 hg4 hv4; have HN := Lib.hid (HP.out.push (i := s.size) HBD.out.1 (by rw [HR.out]; exact ho4) (by rw [HR.out]; exact hg4)); clear ho4 hg4 hv4)
      go_ret
      exact ⟨v', _, rfl, HN.out, by simp⟩
    · go_wp2_with (at_builtin; refine wpList_pushT (wr.alloc (.cells #[.int .i64 i, .int .i64 ln, .int .i64 col] 69)) rfl (.tmp 13) (.tmp 18) 53 69 3 rfl w.heap.size Tryd.underlying53 24 (.agg #[.int .i64 0, .int .i64 0, .int .i64 0]) rfl (by omega) info69 _ (ps.map (posRow s)) [.int .i64 i, .int .i64 ln, .int .i64 col] rfl (OwnT.gb HP.out.own (World.grownBy_alloc wr _ none) (by cases Value.ownBlock _ <;> simp)) wr.heap.size rfl (Blk.new _ _ _) rfl (by intro u hu; simp at hu; rcases hu with rfl | rfl | rfl <;> rfl) HM.out.1 HM.out.2.1 HM.out.2.2 ?_; intro v' w4 ho4 hg4 hv4; have HN := Lib.hid (HP.out.push HBD.out.1 (by rw [HR.out]; exact ho4) (by rw [HR.out]; exact hg4)); clear ho4 hg4 hv4)
      have HD := Lib.hid (fun wz hb => dri s i hlt wz (tabs_below HT.out (HN.out.bel.trans hb) (by omega) (by omega)))
      have hcpl : cpt s i ≤ 2147483647 := decode_le s i
      have hwp := wd_pos s i hlt
      have hwl := wd_le s i hlt
      have hnx := posRow_next s i HBD.out.1 hlt
      rw [← HBD.out.2.1, ← HBD.out.2.2] at hnx
      have HX : Hid (Bd s (i + wd s i) ∧ ∃ ps, PsS s w v' ps (i + wd s i) w4) := Lib.hid ⟨HBD.out.1.next hlt, _, { HN.out with len := by have := HN.out.len; omega }⟩
      obtain ⟨W, hW⟩ : ∃ W, wd s i = W := ⟨_, rfl⟩
      have hw13 : cpt s i < 128 → W = 1 := fun h => by
        rw [← hW]; exact (wd_ascii s i hlt (by rw [cpt_small s i hlt h]; exact h)).1
      rw [hW] at HD HX hnx hwp hwl
      clear hW
      have hsw := sw_cases s i
      have HU : Hid (un s i = if cpt s i ≤ 65535 then 1 else 2) := Lib.hid rfl
      have hup := un_pos s i
      obtain ⟨un', hun'⟩ : ∃ u, un s i = u := ⟨_, rfl⟩
      obtain ⟨tm', htm'⟩ : ∃ u, tm s i = u := ⟨_, rfl⟩
      rw [hun', htm'] at hnx hsw
      rw [hun'] at HU hup
      have HNX := Lib.hid hnx
      clear hun' htm' hnx
      generalize cpt s i = cp at *
      rcases hsw with ⟨rfl, hcs⟩ | ⟨rfl, hcs⟩
      · rw [if_pos rfl, if_pos rfl] at HNX
        clear HU
        have hcs2 : (cp = 10 ∨ cp = 8232 ∨ cp = 8233) ∨ (cp = 13 ∧ W = 1 ∧ decide (i + 1 < s.size) = false) ∨ (cp = 13 ∧ W = 1 ∧ ∃ (n1 : Nat) (hb : n1 < s.size), (i : Int) + 1 = (n1 : Int) ∧ (((s[n1]'hb).toNat : Int) == 10) = false) := by
          rcases hcs with h | h | h | ⟨h, hn⟩ | ⟨h, h1, hn⟩
          · exact .inl (.inl h)
          · exact .inl (.inr (.inl h))
          · exact .inl (.inr (.inr h))
          · exact .inr (.inl ⟨h, hw13 (by omega), decide_eq_false hn⟩)
          · exact .inr (.inr ⟨h, hw13 (by omega), i + 1, h1, by omega, by simpa using (by omega : ¬ ((s[i + 1]'h1).toNat : Int) = 10)⟩)
        clear hcs hw13
        rcases hcs2 with (rfl | rfl | rfl) | ⟨rfl, hW, hd⟩ | ⟨rfl, hW, n1, hb, hn1, hq⟩
        · go_wp2_with (go_at_call 26; refine (HD.out _ (Below.refl _ _)).mono ?_; rintro e w5 ⟨rfl, hb5⟩; have H5 : Hid (Bd s (i + W) ∧ ∃ ps, PsS s w v' ps (i + W) w5) := Lib.hid ⟨HX.out.1, HX.out.2.choose, HX.out.2.choose_spec.kept hb5⟩; clear hb5)
          go_roundg (s.size - (i + W))
          case measure => omega
          case rel => exact ⟨i + W, ln + 1, 0, by go_num, by go_num, by go_num, by omega, by omega, by omega, by omega, Lib.hid ⟨H5.out.1, HNX.out.1.symm, HNX.out.2.symm, H5.out.2⟩⟩
        · go_wp2_with (go_at_call 26; refine (HD.out _ (Below.refl _ _)).mono ?_; rintro e w5 ⟨rfl, hb5⟩; have H5 : Hid (Bd s (i + W) ∧ ∃ ps, PsS s w v' ps (i + W) w5) := Lib.hid ⟨HX.out.1, HX.out.2.choose, HX.out.2.choose_spec.kept hb5⟩; clear hb5)
          go_roundg (s.size - (i + W))
          case measure => omega
          case rel => exact ⟨i + W, ln + 1, 0, by go_num, by go_num, by go_num, by omega, by omega, by omega, by omega, Lib.hid ⟨H5.out.1, HNX.out.1.symm, HNX.out.2.symm, H5.out.2⟩⟩
        · go_wp2_with (go_at_call 26; refine (HD.out _ (Below.refl _ _)).mono ?_; rintro e w5 ⟨rfl, hb5⟩; have H5 : Hid (Bd s (i + W) ∧ ∃ ps, PsS s w v' ps (i + W) w5) := Lib.hid ⟨HX.out.1, HX.out.2.choose, HX.out.2.choose_spec.kept hb5⟩; clear hb5)
          go_roundg (s.size - (i + W))
          case measure => omega
          case rel => exact ⟨i + W, ln + 1, 0, by go_num, by go_num, by go_num, by omega, by omega, by omega, by omega, Lib.hid ⟨H5.out.1, HNX.out.1.symm, HNX.out.2.symm, H5.out.2⟩⟩
        · have hd2 : decide ((i : Int) + 1 < (s.size : Int)) = false := by simp at hd ⊢; omega
          have hd3 : decide ((i : Int) + (W : Int) < (s.size : Int)) = false := by rw [hW]; exact hd2
          clear hW hd hd2
          go_wp2_with (go_at_call 26; refine (HD.out _ (Below.refl _ _)).mono ?_; rintro e w5 ⟨rfl, hb5⟩; have H5 : Hid (Bd s (i + W) ∧ ∃ ps, PsS s w v' ps (i + W) w5) := Lib.hid ⟨HX.out.1, HX.out.2.choose, HX.out.2.choose_spec.kept hb5⟩; clear hb5)
          go_roundg (s.size - (i + W))
          case measure => omega
          case rel => exact ⟨i + W, ln + 1, 0, by go_num, by go_num, by go_num, by omega, by omega, by omega, by omega, Lib.hid ⟨H5.out.1, HNX.out.1.symm, HNX.out.2.symm, H5.out.2⟩⟩
        · have hlt1 : i + 1 < s.size := by omega
          have hn2 : (i : Int) + (W : Int) = (n1 : Int) := by rw [hW]; exact hn1
          clear hW hn1
          go_wp2_with (go_at_call 26; refine (HD.out _ (Below.refl _ _)).mono ?_; rintro e w5 ⟨rfl, hb5⟩; have H5 : Hid (Bd s (i + W) ∧ ∃ ps, PsS s w v' ps (i + W) w5) := Lib.hid ⟨HX.out.1, HX.out.2.choose, HX.out.2.choose_spec.kept hb5⟩; clear hb5)
          go_roundg (s.size - (i + W))
          case measure => omega
          case rel => exact ⟨i + W, ln + 1, 0, by go_num, by go_num, by go_num, by omega, by omega, by omega, by omega, Lib.hid ⟨H5.out.1, HNX.out.1.symm, HNX.out.2.symm, H5.out.2⟩⟩
      · rw [if_neg (by simp), if_neg (by simp)] at HNX
        rcases hcs with ⟨rfl, rfl, h1, hn⟩ | ⟨h1, h2, h3, h4, ⟨hle, rfl⟩ | ⟨hle, rfl⟩⟩
        · have hW1 := hw13 (by omega)
          obtain ⟨n1, hn1, hb, hq⟩ : ∃ n1 : Nat, ((i : Int) + (W : Int)) = (n1 : Int) ∧ ∃ hb : n1 < s.size, (((s[n1]'hb).toNat : Int) == 10) = true := ⟨i + 1, by omega, h1, by rw [hn]; rfl⟩
          clear hn h1 hw13 HU hW1
          go_wp2_with (go_at_call 26; refine (HD.out _ (Below.refl _ _)).mono ?_; rintro e w5 ⟨rfl, hb5⟩; have H5 : Hid (Bd s (i + W) ∧ ∃ ps, PsS s w v' ps (i + W) w5) := Lib.hid ⟨HX.out.1, HX.out.2.choose, HX.out.2.choose_spec.kept hb5⟩; clear hb5)
          go_roundg (s.size - (i + W))
          case measure => omega
          case rel => exact ⟨i + W, ln, col + 1, by go_num, by go_num, by go_num, by omega, by omega, by omega, by omega, Lib.hid ⟨H5.out.1, HNX.out.1.symm, HNX.out.2.symm, H5.out.2⟩⟩
        · have q1 : ((cp : Int) == 13) = false := beq_eq_false_iff_ne.2 (by omega)
          have q2 : ((cp : Int) == 10) = false := beq_eq_false_iff_ne.2 (by omega)
          have q3 : ((cp : Int) == 8232) = false := beq_eq_false_iff_ne.2 (by omega)
          have q4 : ((cp : Int) == 8233) = false := beq_eq_false_iff_ne.2 (by omega)
          clear HU
          go_wp2_with (go_at_call 26; refine (HD.out _ (Below.refl _ _)).mono ?_; rintro e w5 ⟨rfl, hb5⟩; have H5 : Hid (Bd s (i + W) ∧ ∃ ps, PsS s w v' ps (i + W) w5) := Lib.hid ⟨HX.out.1, HX.out.2.choose, HX.out.2.choose_spec.kept hb5⟩; clear hb5)
          go_roundg (s.size - (i + W))
          case measure => omega
          case rel => exact ⟨i + W, ln, col + 1, by go_num, by go_num, by go_num, by omega, by omega, by omega, by omega, Lib.hid ⟨H5.out.1, HNX.out.1.symm, HNX.out.2.symm, H5.out.2⟩⟩
        · have q1 : ((cp : Int) == 13) = false := beq_eq_false_iff_ne.2 (by omega)
          have q2 : ((cp : Int) == 10) = false := beq_eq_false_iff_ne.2 (by omega)
          have q3 : ((cp : Int) == 8232) = false := beq_eq_false_iff_ne.2 (by omega)
          have q4 : ((cp : Int) == 8233) = false := beq_eq_false_iff_ne.2 (by omega)
          clear HU
          go_wp2_with (go_at_call 26; refine (HD.out _ (Below.refl _ _)).mono ?_; rintro e w5 ⟨rfl, hb5⟩; have H5 : Hid (Bd s (i + W) ∧ ∃ ps, PsS s w v' ps (i + W) w5) := Lib.hid ⟨HX.out.1, HX.out.2.choose, HX.out.2.choose_spec.kept hb5⟩; clear hb5)
          go_roundg (s.size - (i + W))
          case measure => omega
          case rel => exact ⟨i + W, ln, col + 2, by go_num, by go_num, by go_num, by omega, by omega, by omega, by omega, Lib.hid ⟨H5.out.1, HNX.out.1.symm, HNX.out.2.symm, H5.out.2⟩⟩
end Go.Proofs.YtfbeeekakfllpaaDoor
