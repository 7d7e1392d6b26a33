/-
  The wrapper, a known at-rule asked, a chain read back. No statement of the seat is proved here.
-/
import Derived.Test.YtgkekeojdiofnaaWp
import Derived.Test.YtgkekeojdiofnaaStrs
namespace Go.Proofs.Ytgkekeojdiofnaa
open Go.RowKit
set_option linter.unusedVariables false
set_option linter.unusedSimpArgs false

set_option maxRecDepth 100000 in
theorem zw_any (s : Ns) (v : Value) (b n cap : Nat) (cs : List Cz) (hn : cs.length = n) (hn4 : n ≤ 4096) (hl : ∀ i, i < cs.length → (cz cs i).ls.length ≤ maxLen) (hk : ∀ i, i < cs.length → (cz cs i).sn.toNat ≤ maxLen) (w : World) (hs : NS w s v) (hi : Ic w b cs) :
    Calls Try.prog 7 #[v, .slice (some ⟨b, 0, none⟩) n cap] w fun e w' => ∃ v', e = .returned (.tuple #[v', .int .i64 0]) ∧ NS w' (conds (cds cs) s) v' ∧ w.grownBy w' none := by
  obtain ⟨a0, l0, c0, rfl, _⟩ := hs.form
  have H := Lib.hid (wp_any s _ b n cap cs hn hn4 hl hk w hs hi)
  clear hs hi hl hk hn
  go_enter Try.func7, Try.ntmps7
  go_wp2_with (go_at_call 11; refine (H.out).mono ?_; rintro e w8 ⟨v', rfl, h1, h2⟩; have H8 := Lib.hid (And.intro h1 h2); clear h1 h2)
  go_ret2
  exact ⟨_, rfl, H8.out⟩
set_option maxRecDepth 100000 in
theorem kn0_any (p : Nat) (l : Int) (w : World) : Calls Try.prog 13 #[.agg #[.iface 71 (.pointer (some ⟨p, 0, none⟩)), .int .i32 l]] w fun e w' => e = .returned (.tuple #[.string ⟨#[]⟩, .slice none 0 0, .bool false]) ∧ w.grownBy w' none := by
  have hm : ∀ w : World, (Instr.typeAssert (.iface 71 (.pointer (some ⟨p, 0, none⟩))) 42 63 true).run Try.prog w = .ok (.tuple #[.pointer none, .bool false]) w := fun _ => by kernel_rfl
  go_enter Try.func13, Try.ntmps13
  go_wp2_with fail
  go_ret3
  exact ⟨rfl, gb_alloc (gb_refl _ _) _⟩
set_option maxRecDepth 100000 in
theorem kn1_any (p : Nat) (cs : Array Value) (s : ByteArray) (a : Option Addr) (n c : Nat) (w : World) (hb : Blk w p 65 cs) (h0 : cs[0]? = some (.string s)) (h2 : cs[2]? = some (.slice a n c)) :
    Calls Try.prog 13 #[.agg (ruC (.iface 63 (.pointer (some ⟨p, 0, none⟩))))] w fun e w' => e = .returned (.tuple #[.string s, .slice a n c, .bool true]) ∧ w.grownBy w' none := by
  have hg : w.grownBy (w.alloc (.cells (ruC (.iface 63 (.pointer (some ⟨p, 0, none⟩)))) 46)) none := gb_alloc (gb_refl _ _) _
  have c0 := blk3 (hb.gb hg (by simp)) h0
  have c2 := blk3 (hb.gb hg (by simp)) h2
  have lp := hb.lt
  have lp2 := (hb.gb hg (by simp)).lt
  have HG := Lib.hid hg
  clear hb h0 h2 hg
  unfold ruC at *
  have hm : ∀ w : World, (Instr.typeAssert (.iface 63 (.pointer (some ⟨p, 0, none⟩))) 42 63 true).run Try.prog w = .ok (.tuple #[.pointer (some ⟨p, 0, none⟩), .bool true]) w := fun _ => by kernel_rfl
  go_enter Try.func13, Try.ntmps13
  go_upto_region 4 with fail
  go_quiet (fail)
  go_wp2_with fail
  go_ret3
  exact ⟨rfl, gb_trans HG.out ⟨rfl, rfl, rfl, Nat.le_refl _, fun _ _ _ => rfl⟩⟩
theorem NS.below {w w' : World} (hb : Below w.heap.size w w') : ∀ {ch : List Bool} {m : Nat} {v : Value}, Nest w ch m v → Nest w' ch m v
  | [], m, v, ⟨ao, cap, h1, h2, h3⟩ => ⟨ao, cap, h1, h2, fun e => by
      obtain ⟨b, cs, p, l, k1, k2, k3⟩ := h3 e
      exact ⟨b, cs, p, l, k1, k2.kept hb, k3⟩⟩
  | t :: r, m, v, ⟨b, p, cs, iv, h1, h2, h3, h4, h5, h6⟩ => ⟨b, p, cs, iv, h1, h2.kept hb, h3.kept hb, h4, h5, NS.below hb h6⟩
theorem OwnT.kept {e : TypeId} {w w' : World} {B : Nat} {v : Value} {ts : List ByteArray} (h : OwnT e w B v ts) (hb : Below w.heap.size w w') : OwnT e w' B v ts :=
  World.ownsRow.kept h ⟨hb.os, hb.tape, hb.output, hb.size, fun i hi _ => hb.block i hi⟩ (row := none) (by cases v.ownBlock <;> simp)
theorem OwnT.nil (e : TypeId) (w : World) (B : Nat) : OwnT e w B (.slice none 0 0) [] := World.ownsRow_nil w B e 1
theorem info9 : (Try.prog.info? 9).map (fun i => (i.zero, i.size, i.bytes)) = some (some (.string ⟨#[]⟩), 1, 16) := by kernel_rfl
theorem drop_some {ch : List Bool} {i : Nat} (h : i < ch.length) : ∃ t, ch[i]? = some t ∧ ch.drop i = t :: ch.drop (i + 1) ∧ ch.take (i + 1) = ch.take i ++ [t] :=
  ⟨ch[i], List.getElem?_eq_getElem h, List.drop_eq_getElem_cons h, List.take_succ_eq_append_getElem h⟩
set_option maxHeartbeats 4000000 in
set_option maxRecDepth 100000 in
theorem wc_any (ch : List Bool) (m : Nat) (v : Value) (hL : ch.length ≤ 1099511627776) (w : World) (hs : Nest w ch m v) :
    Calls Try.prog 10 #[v] w fun e w' => ∃ ao cap, e = .returned (.tuple #[.slice ao ch.length cap, .int .i64 (m : Int)]) ∧ OwnT 9 w' w.heap.size (.slice ao ch.length cap) (ch.map nm) ∧ Below w.heap.size w w' := by
  have HS := Lib.hid hs
  obtain ⟨a0, l0, c0, rfl, _⟩ := NS.form (s := ⟨ch, m⟩) hs
  clear hs
  go_enter Try.func10, Try.ntmps10
  go_wp2_with fail
  go_loopg [4, 5] ch.length (fun k x y wx => ∃ i : Nat, i ≤ ch.length ∧ ch.length - i ≤ k ∧ ∃ a l c, y = .slice a l c ∧ Hid (Nest w (ch.drop i) m (.slice a l c) ∧ OwnT 9 wx w.heap.size x (ch.take i |>.map nm) ∧ Below w.heap.size w wx))
  case atStart => exact ⟨0, by omega, by omega, _, _, _, rfl, Lib.hid ⟨HS.out, OwnT.nil _ _ _, Below.refl _ _⟩⟩
  case round =>
    obtain ⟨i, hi, hk, a, l, c, rfl, HB⟩ := hrel
    obtain ⟨wy, rfl⟩ : ∃ wy : World, wy = wr := ⟨_, rfl⟩
    have hx := HB.out.2.1.form
    obtain ⟨xa, xc, rfl⟩ := hx
    rcases (show ch.length = i ∨ i < ch.length by omega) with he | hlt
    · subst he
      have hnest := NS.below HB.out.2.2 HB.out.1
      rw [List.drop_of_length_le (by omega)] at hnest
      obtain ⟨ao, cap, hv, hm, h1⟩ := hnest
      have HE : Hid (OwnT 9 wy w.heap.size (.slice xa ch.length xc) (ch.map nm) ∧ Below w.heap.size w wy) := Lib.hid (by
        have h := HB.out.2
        rw [List.take_of_length_le (by omega)] at h
        simpa using h)
      have hlen : ((ch.take ch.length).map nm).length = ch.length := by simp
      rw [hlen]
      simp only [Value.slice.injEq] at hv
      obtain ⟨rfl, rfl, rfl⟩ := hv
      by_cases h : l = 1
      · subst h
        obtain ⟨b, cs, p, ll, rfl, hb, q0, q1⟩ := h1 rfl
        have c0 := blk3 hb q0
        have c1 := blk3 hb q1
        have lb := hb.lt
        have HK := Lib.hid (fun w => kn0_any p ll w)
        clear hb q0 q1 h1
        go_wp2_with (go_at_call 13; refine (HK.out _).mono ?_; rintro e w8 ⟨rfl, hg8⟩; have HG8 := Lib.hid hg8; clear hg8)
        go_ret2
        have hb := below_of HG8.out
        exact ⟨_, _, rfl, HE.out.1.kept hb, HE.out.2.trans (hb.mono HE.out.2.size)⟩
      · have d : (((l : Nat) : Int) == 1) = false := by simp; omega
        go_wp2_with fail
        go_ret2
        exact ⟨_, _, rfl, HE.out⟩
    · obtain ⟨t, ht, hdr, htk⟩ := drop_some hlt
      have hst := HB.out.1
      rw [hdr] at hst
      obtain ⟨b, p, cs, iv, hv, hb', hp', q0, q2, hin⟩ := hst
      obtain ⟨ia, il, ic, rfl, _⟩ := NS.form (s := ⟨_, _⟩) hin
      simp only [Value.slice.injEq] at hv
      obtain ⟨rfl, rfl, rfl⟩ := hv
      have hb := hb'.kept HB.out.2.2
      have hp := hp'.kept HB.out.2.2
      have HIN := Lib.hid hin
      have c0 := blk3 hb (i := 0) rfl
      have c1 := blk3 hb (i := 1) rfl
      have lb := hb.lt
      have HK := Lib.hid (kn1_any p cs (nm t) ia il ic wy hp q0 q2)
      have HT := Lib.hid htk
      have HOW := Lib.hid HB.out.2.1
      have HL : Hid (((ch.take i).map nm).length = i) := Lib.hid (by rw [List.length_map, List.length_take]; omega)
      obtain ⟨v0, hv0⟩ : ∃ v0 : Value, Value.slice xa ((ch.take i).map nm).length xc = v0 := ⟨_, rfl⟩
      rw [hv0] at HOW
      rw [hv0]
      clear hb hp hb' hp' hin q0 q2 hdr htk ht hv0
      go_upto_region 6 with (go_at_call 13; refine (HK.out).mono ?_; rintro e w8 ⟨rfl, hg8⟩; have HG8 := Lib.hid hg8; clear hg8)
      have HO8 : Hid (OwnT 9 w8 w.heap.size v0 ((ch.take i).map nm) ∧ w.heap.size ≤ w8.heap.size) := Lib.hid ⟨HOW.out.kept (below_of HG8.out), Nat.le_trans HB.out.2.2.size HG8.out.size⟩
      go_wp2_with (at_builtin; refine wpList_pushS w8 rfl _ _ 32 rfl w.heap.size 9 ⟨#[]⟩ 16 Try.underlying32 info9 v0 ((ch.take i).map nm) (nm t) rfl HO8.out.1 rfl (by rw [HL.out]; unfold maxLen; omega) (by rw [HL.out]; omega) HO8.out.2 ?_; intro v9 w9 ho9 hg9; have H9 := Lib.hid (And.intro ho9 hg9); clear ho9 hg9)
      go_roundg (gk - 1)
      case measure => omega
      case rel =>
        refine ⟨i + 1, by omega, by omega, _, _, _, rfl, Lib.hid ⟨HIN.out, ?_, ?_⟩⟩
        · rw [HT.out, List.map_append]
          exact H9.out.1
        · exact H9.out.2.below (HB.out.2.2.trans ((below_of HG8.out).mono HB.out.2.2.size)) HO8.out.2 (fun g hg => (HO8.out.1.lt g hg).1)
end Go.Proofs.Ytgkekeojdiofnaa
