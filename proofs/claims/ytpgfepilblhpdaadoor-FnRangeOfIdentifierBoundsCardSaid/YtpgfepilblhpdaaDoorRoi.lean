/-
  css_lexer's RangeOfIdentifier on a text that holds a byte which no branch of the scan can take. No statement of the seat is proved here.
-/
import Derived.Test.YtpgfepilblhpdaaDoorBt
import Derived.Test.YtpgfepilblhpdaaDoorVlP
import Derived.Test.YtpgfepilblhpdaaDoorReg
import Derived.Deep.CutBlock
import Derived.Deep.DeepCutAuto
import Derived.Deep.LoopGhost
import Derived.Laws.Rows
namespace Go.Proofs.YtpgfepilblhpdaaDoor
open Go.RowKit
set_option linter.unusedVariables false
theorem cSrc3 (s : ByteArray) : (cSrc s)[3]? = some (.string s) := by kernel_rfl
def c2 (a b : Int) : Array Value := #[.int .i32 a, .int .i32 b]
theorem c2_one (a b : Int) : (c2 a b).all (·.oneCell') = true := by kernel_rfl
theorem c2_info (a b : Int) : (Tryd.prog.info? 63).map (·.size) = some (c2 a b).size := by kernel_rfl
/-- r bytes from a on are name bytes -/
def Run (s : ByteArray) (a r : Nat) : Prop := a + r ≤ s.size ∧ ∀ j, j < r → nameCont (byteAt s (a + j) : Int) = true
/-- where the scan stands still: at m no name goes on -/
def Halt (T : ByteArray) (K m : Nat) : Prop := m ≤ K ∧ nameCont (decAt T m).1 = false
def Roid (st : Nat) (T : ByteArray) (K : Nat) (w : World) (e : Ending) (w' : World) : Prop := ∃ L : Nat, e = .returned (.agg #[.int .i32 st, .int .i32 L]) ∧ L ≤ K ∧ (∀ r, Run T 0 r → r ≤ L) ∧ Below w.heap.size w w'
theorem halt_run {T : ByteArray} {K m r : Nat} (h : Halt T K m) (hr : Run T 0 r) : r ≤ m := by
  obtain ⟨h1, h2⟩ := h
  obtain ⟨r1, r2⟩ := hr
  by_cases c : r ≤ m
  · exact c
  · have := r2 m (by omega)
    rw [Nat.zero_add] at this
    rw [cont_of_byte (by omega) this] at h2
    cases h2
theorem ws_not_cont {c : Int} (h : isWS c = true) : nameCont c = false := by
  unfold isWS at h
  simp only [decide_eq_true_eq] at h
  rcases h with rfl | rfl | rfl | rfl | rfl <;> rfl
theorem hex_cont {c : Int} (h : (hexOf c).2 = true) : nameCont c = true ∧ 0 ≤ c ∧ c < 128 := by
  unfold hexOf at h
  split at h
  · rename_i k; exact ⟨by unfold nameCont nameStart; simp; omega, by omega, by omega⟩
  split at h
  · rename_i k; exact ⟨by unfold nameCont nameStart; simp; omega, by omega, by omega⟩
  split at h
  · rename_i k; exact ⟨by unfold nameCont nameStart; simp; omega, by omega, by omega⟩
  · cases h
/-- a step of the scan that does not take the stopper -/
theorem take_ok {T : ByteArray} {K m c W : Nat} (hK : StopAt T K) (hm : m ≤ K) (hd : dg T m = (c, W)) (h : nameCont (c : Int) = true ∨ c = 92 ∨ isWS (c : Int) = true) : m + W ≤ K ∧ 1 ≤ W := by
  have hl : m < T.size := by have := hK.1; omega
  have k := dg_dec hl
  rw [hd] at k
  obtain ⟨f1, f2, f3, f4⟩ := stop_facts hK.2
  have hne : m ≠ K := by
    rintro rfl
    rw [dec_stop hK] at k
    have := congrArg Prod.fst k
    simp only at this
    rw [← this] at h
    rcases h with h | h | h
    · rw [f2] at h; cases h
    · omega
    · rw [f4] at h; cases h
  have := no_cross hm hK.1 f1 hne
  rw [k] at this
  have h1 := decAt_pos T m hl
  rw [k] at h1
  exact ⟨this, h1⟩
theorem ascii_one {T : ByteArray} {m c W : Nat} (hl : m < T.size) (hd : dg T m = (c, W)) (hc : c < 128) : W = 1 := by
  have k := dg_dec hl
  rw [hd] at k
  have := (decAt_small T m (c := (c : Int)) (by rw [k]) (by omega) (by omega)).2.2
  rw [k] at this
  exact this
/-- what the scan keeps: its own cells -/
def Rb (st n : Nat) (w wr : World) : Prop := Blk wr (n + 1) 61 #[.int .i32 st] ∧ Blk wr (n + 1 + 1) 63 #[.int .i32 0, .int .i32 0] ∧ Below n w wr
theorem Rb.kept {st n : Nat} {w w1 w2 : World} (h : Rb st n w w1) (hb : Below w1.heap.size w1 w2) : Rb st n w w2 :=
  ⟨h.1.kept hb, h.2.1.kept hb, h.2.2.trans (hb.mono (by have := h.1.lt; omega))⟩
theorem rb_start (s : ByteArray) (st : Nat) (w : World) : Rb st w.heap.size w (((w.alloc (.cells (cSrc s) 59)).alloc (.cells #[.int .i32 st] 61)).alloc (.cells #[.int .i32 0, .int .i32 0] 63)) := by
  have k1 := Blk.new (w.alloc (.cells (cSrc s) 59)) 61 #[.int .i32 st]
  have k2 := Blk.new ((w.alloc (.cells (cSrc s) 59)).alloc (.cells #[.int .i32 st] 61)) 63 #[.int .i32 0, .int .i32 0]
  rw [show (w.alloc (.cells (cSrc s) 59)).heap.size = w.heap.size + 1 by simp] at k1
  rw [show ((w.alloc (.cells (cSrc s) 59)).alloc (.cells #[.int .i32 st] 61)).heap.size = w.heap.size + 1 + 1 by simp] at k2
  exact ⟨k1.alloc _, k2, (((Below.refl _ _).alloc (Nat.le_refl _) _).alloc (by simp) _).alloc (by simp; try omega) _⟩
theorem Rb.tabs {st n : Nat} {w wr : World} (h : Rb st n w wr) (hn : n = w.heap.size) (ht : Lib.Utf8Tabs 0 1 w) (w0 : 1 < w.heap.size) : Lib.Utf8Tabs 0 1 wr :=
  tabs_below ht h.2.2 (by omega) (by omega)
def RInv (T : ByteArray) (K st n : Nat) (w : World) (k : Nat) (v : Value) (wr : World) : Prop := ∃ m : Nat, v = .int .i64 m ∧ m ≤ K ∧ K - m ≤ k ∧ Rb st n w wr
def RIn (T : ByteArray) (K st n m0 : Nat) (w : World) (a b c : Value) (wr : World) : Prop := ∃ m c1 W1 : Nat, a = .int .i64 m ∧ b = .int .i32 c1 ∧ c = .int .i64 W1 ∧ m0 ≤ m ∧ m ≤ K ∧ dg T m = (c1, W1) ∧ Rb st n w wr
set_option maxRecDepth 100000 in
set_option maxHeartbeats 4000000 in
theorem roi_any (s : ByteArray) (st : Nat) (T : ByteArray) (K : Nat) (w : World) (hT : s.extract st s.size = T) (hst : st ≤ s.size) (hz : s.size ≤ 1048576) (hK : StopAt T K) (ht : Lib.Utf8Tabs 0 1 w) :
    Calls Tryd.prog 28 #[.agg (cSrc s), .agg #[.int .i32 st]] w (Roid st T K w) := by
  have w0 : 1 < w.heap.size := World.block_lt_of_cell? w ⟨1, 0, none⟩ (ht.2 0 (by decide)).1
  have k3 := cSrc3 s
  have e1 : (0 : Int) ≤ (st : Int) := by omega
  have e2 : (st : Int) ≤ (s.size : Int) := by omega
  have hTz : T.size ≤ 1048576 := by rw [← hT]; simp; omega
  have hK1 := hK.1
  have HH := Lib.hid (And.intro hK ht)
  clear hK ht
  go_enter Tryd.func28, Tryd.ntmps28
  go_upto_region 2 with fail
  clear hT
  have hS := rb_start s st w
  generalize World.alloc (World.alloc (World.alloc _ _) _) _ = W0 at hS ⊢
  have t0 : ((T.size : Int) == 0) = false := beq_eq_false_iff_ne.2 (by omega)
  have HS := Lib.hid hS
  clear hS k3 e1 e2
  go_upto_block 0 with fail
  go_cut [6] (fun v wc => ∃ m : Nat, v = .int .i64 m ∧ Halt T K m ∧ Rb st w.heap.size w wc)
  case first =>
    go_wp2_with fail
    go_loopg [6] (K - 0) (fun k v wr => RInv T K st w.heap.size w k v wr)
    case atStart => exact ⟨0, rfl, Nat.zero_le _, Nat.le_refl _, HS.out⟩
    case round => as_aux_lemma =>
      obtain ⟨m, rfl, hm, hk, hR⟩ := hrel
      have hmT : m < T.size := by omega
      obtain ⟨c, W, hd⟩ : ∃ c W, dg T m = (c, W) := ⟨_, _, rfl⟩
      have hdd := dg_dec hmT
      rw [hd] at hdd
      have f1 : (0 : Int) ≤ (m : Int) := by omega
      have f2 : (m : Int) ≤ (T.size : Int) := by omega
      have HR := Lib.hid (And.intro hR (And.intro hd hdd))
      clear hR hd hdd
      go_wp2_with fail
      refine (dri2 T m c W wr (HR.out.1.tabs rfl HH.out.2 w0) HR.out.2.1).mono ?_
      rintro e w1 ⟨rfl, b1⟩
      have HR1 := Lib.hid (HR.out.1.kept b1)
      clear b1
      go_wp2_with fail
      refine (nc_any (c : Int) w1).mono ?_
      rintro e w2 ⟨rfl, rfl⟩
      cases hnc : nameCont (c : Int)
      · have HALT := Lib.hid (show Halt T K m from ⟨hm, by rw [HR.out.2.2]; exact hnc⟩)
        clear hnc
        go_upto_region 9 with fail
        go_cut [55] (fun v wc => ∃ o : Bool, v = .bool o ∧ (o = true → c = 92 ∧ m + 1 ≤ K) ∧ wc = w1)
        case first => as_aux_lemma =>
          by_cases hc : c = 92
          · subst hc
            have ht1 := take_ok HH.out.1 hm HR.out.2.1 (.inr (.inl rfl))
            have hW : W = 1 := ascii_one hmT HR.out.2.1 (by omega)
            subst hW
            have hm1 : m + 1 ≤ K := ht1.1
            have hm1T : m + 1 < T.size := by omega
            obtain ⟨n1, hn1⟩ : ∃ n : Nat, m + 1 = n := ⟨_, rfl⟩
            have hn1i : ((m : Int) + 1) = (n1 : Int) := by omega
            rw [hn1] at hm1T
            have eb := byteAt_get T n1 hm1T
            obtain ⟨b, hb⟩ : ∃ b, byteAt T n1 = b := ⟨_, rfl⟩
            have hbl := byteAt_lt T n1
            rw [hb] at eb hbl
            have hwb : wrap32 (b : Int) = (b : Int) := by unfold wrap32; omega
            have HNL := Lib.hid (nl_any (b : Int))
            have HM1 := Lib.hid hm1
            clear ht1 hb hm1 hbl hk hn1
            cases hnl : isNL (b : Int)
            · have HNL' := Lib.hid (fun w => by have := HNL.out w; rw [hnl] at this; exact this)
              clear hnl HNL
              go_wp2_with (first | (go_at_call 30; refine (HNL'.out _).mono ?_; rintro e w3 ⟨rfl, rfl⟩))
              go_meet
              first | exact ⟨true, rfl, fun _ => ⟨by first | rfl | trivial, HM1.out⟩, rfl⟩ | exact ⟨fun _ => ⟨by first | rfl | trivial, HM1.out⟩, rfl⟩
            · have HNL' := Lib.hid (fun w => by have := HNL.out w; rw [hnl] at this; exact this)
              clear hnl HNL
              go_wp2_with (first | (go_at_call 30; refine (HNL'.out _).mono ?_; rintro e w3 ⟨rfl, rfl⟩))
              go_meet
              first | exact ⟨false, rfl, fun c => (by cases c), rfl⟩ | exact ⟨fun c => (by cases c), rfl⟩
          · have t1 : ((c : Int) == 92) = false := beq_eq_false_iff_ne.2 (by omega)
            go_wp2_with fail
            go_meet
            first | exact ⟨false, rfl, fun c => (by cases c), rfl⟩ | exact ⟨fun c => (by cases c), rfl⟩
        case rest =>
          obtain ⟨o, rfl, ho, hcw⟩ := hcut
          have hcw1 := hcw.symm
          subst hcw1
          cases o
          · clear ho
            go_wp2_with fail
            go_meet
            exact ⟨m, rfl, HALT.out, HR1.out⟩
          · obtain ⟨hc, hm1⟩ := ho rfl
            subst hc
            have hW : W = 1 := ascii_one hmT HR.out.2.1 (by omega)
            subst hW
            obtain ⟨n1, hn1⟩ : ∃ n : Nat, m + 1 = n := ⟨_, rfl⟩
            have hn1i : ((m : Int) + 1) = (n1 : Int) := by omega
            rw [hn1] at hm1
            have hm1T : n1 < T.size := by omega
            clear ho
            obtain ⟨c1, W1, hd1⟩ : ∃ c W, dg T n1 = (c, W) := ⟨_, _, rfl⟩
            have HD1 := Lib.hid hd1
            clear hd1
            have f4 : (0 : Int) ≤ (n1 : Int) := by omega
            have f5 : (n1 : Int) ≤ (T.size : Int) := by omega
            go_wp2_with fail
            refine (dri2 T n1 c1 W1 w1 (HR1.out.tabs rfl HH.out.2 w0) HD1.out).mono ?_
            rintro e w4 ⟨rfl, b4⟩
            have HR4 := Lib.hid (HR1.out.kept b4)
            clear b4
            have HHX := Lib.hid (hex_any (c1 : Int) w4)
            obtain ⟨hv, hok, hho⟩ : ∃ v o, hexOf (c1 : Int) = (v, o) := ⟨_, _, rfl⟩
            have HHX2 := Lib.hid (show Calls Tryd.prog 36 #[.int .i32 c1] w4 fun e w' => e = .returned (.tuple #[.int .i64 hv, .bool hok]) ∧ w4 = w' from by have := HHX.out; rw [hho] at this; exact this)
            clear HHX
            cases hok
            · clear hho
              go_wp2_with fail
              refine HHX2.out.mono ?_
              rintro e w5 ⟨rfl, rfl⟩
              go_wp2_with fail
              go_roundg (K - n1)
              case measure => omega
              case rel => exact ⟨n1, by first | rfl | go_num, hm1, Nat.le_refl _, HR4.out⟩
            · obtain ⟨hcc, hc0, hc128⟩ := hex_cont (c := (c1 : Int)) (by rw [hho])
              have ht2 := take_ok HH.out.1 hm1 HD1.out (.inl hcc)
              have hW1 : W1 = 1 := ascii_one hm1T HD1.out (by omega)
              subst hW1
              obtain ⟨n2, hn2⟩ : ∃ n : Nat, n1 + 1 = n := ⟨_, rfl⟩
              have hn2i : ((n1 : Int) + 1) = (n2 : Int) := by omega
              have hm2 : n2 ≤ K := by rw [← hn2]; exact ht2.1
              have f6 : (0 : Int) ≤ (n2 : Int) := by omega
              have f7 : (n2 : Int) ≤ (T.size : Int) := by omega
              obtain ⟨c2, W2, hd2⟩ : ∃ c W, dg T n2 = (c, W) := ⟨_, _, rfl⟩
              have HD2 := Lib.hid hd2
              clear hd2 hho hcc hc0 hc128 ht2
              go_wp2_with fail
              refine HHX2.out.mono ?_
              rintro e w5 ⟨rfl, rfl⟩
              go_wp2_with fail
              refine (dri2 T n2 c2 W2 w4 (HR4.out.tabs rfl HH.out.2 w0) HD2.out).mono ?_
              rintro e w6 ⟨rfl, b6⟩
              have HR6 := Lib.hid (HR4.out.kept b6)
              clear b6
              go_upto_block 2 with fail
              go_cut [6, 8, 9] (fun x y z wc => RIn T K st w.heap.size n1 w x y z wc)
              case first => as_aux_lemma =>
                go_wp2_with fail
                go_loopw [6, 8, 9, 12] (fun x y z j wr => RIn T K st w.heap.size n1 w x y z wr ∧ ∃ q : Nat, j = .int .i64 q ∧ q ≤ 5) (fun _ _ _ j _ => 5 - (intOf j).toNat)
                case atStart => exact ⟨⟨n2, c2, W2, rfl, rfl, rfl, by omega, hm2, HD2.out, HR6.out⟩, 0, rfl, by omega⟩
                case round =>
                  obtain ⟨⟨m3, c3, W3, rfl, rfl, rfl, hm3a, hm3, hd3, hR3⟩, q, rfl, hq⟩ := hrel
                  have HR3 := Lib.hid (And.intro hR3 hd3)
                  clear hR3 hd3
                  rcases (show q = 5 ∨ q < 5 by omega) with rfl | hq5
                  · go_wp2_with fail
                    go_meet
                    exact ⟨m3, c3, W3, rfl, rfl, rfl, hm3a, hm3, HR3.out.2, HR3.out.1⟩
                  · have HHX := Lib.hid (hex_any (c3 : Int) wr)
                    obtain ⟨hv3, hok3, hho3⟩ : ∃ v o, hexOf (c3 : Int) = (v, o) := ⟨_, _, rfl⟩
                    have HHX3 := Lib.hid (show Calls Tryd.prog 36 #[.int .i32 c3] wr fun e w' => e = .returned (.tuple #[.int .i64 hv3, .bool hok3]) ∧ wr = w' from by have := HHX.out; rw [hho3] at this; exact this)
                    clear HHX
                    cases hok3
                    · clear hho3
                      go_wp2_with fail
                      refine HHX3.out.mono ?_
                      rintro e w7 ⟨rfl, rfl⟩
                      go_wp2_with fail
                      go_meet
                      exact ⟨m3, c3, W3, rfl, rfl, rfl, hm3a, hm3, HR3.out.2, HR3.out.1⟩
                    · obtain ⟨hcc3, hc30, hc3128⟩ := hex_cont (c := (c3 : Int)) (by rw [hho3])
                      have ht3 := take_ok HH.out.1 hm3 HR3.out.2 (.inl hcc3)
                      obtain ⟨n4, hn4⟩ : ∃ n : Nat, m3 + W3 = n := ⟨_, rfl⟩
                      have hn4i : ((m3 : Int) + (W3 : Int)) = (n4 : Int) := by omega
                      have hm4 : n4 ≤ K := by rw [← hn4]; exact ht3.1
                      have f8 : (0 : Int) ≤ (n4 : Int) := by omega
                      have f9 : (n4 : Int) ≤ (T.size : Int) := by omega
                      obtain ⟨c4, W4, hd4⟩ : ∃ c W, dg T n4 = (c, W) := ⟨_, _, rfl⟩
                      have HD4 := Lib.hid hd4
                      clear hd4 hho3 hcc3 hc30 hc3128 ht3
                      go_wp2_with fail
                      refine HHX3.out.mono ?_
                      rintro e w7 ⟨rfl, rfl⟩
                      go_wp2_with fail
                      refine (dri2 T n4 c4 W4 wr (HR3.out.1.tabs rfl HH.out.2 w0) HD4.out).mono ?_
                      rintro e w8 ⟨rfl, b8⟩
                      have HR8 := Lib.hid (HR3.out.1.kept b8)
                      clear b8
                      go_wp2_with fail
                      go_roundw
                      case rel => exact ⟨⟨n4, c4, W4, by first | rfl | go_num, rfl, rfl, by omega, hm4, HD4.out, HR8.out⟩, q + 1, by go_num, by omega⟩
                      case measure => simp [intOf]; omega
              case rest =>
                obtain ⟨m3, c3, W3, rfl, rfl, rfl, hm3a, hm3, hd3, hR3⟩ := hcut
                have HR3 := Lib.hid (And.intro hR3 hd3)
                clear hR3 hd3
                have HWS := Lib.hid (fun w => ws_any (c3 : Int) w)
                cases hws : isWS (c3 : Int)
                · have HWS' := Lib.hid (fun w => by have := HWS.out w; rw [hws] at this; exact this)
                  clear hws HWS
                  go_wp2_with fail
                  refine (HWS'.out _).mono ?_
                  rintro e w9 ⟨rfl, rfl⟩
                  go_wp2_with fail
                  go_roundg (K - m3)
                  case measure => omega
                  case rel => exact ⟨m3, by first | rfl | go_num, hm3, Nat.le_refl _, HR3.out.1⟩
                · have HWS' := Lib.hid (fun w => by have := HWS.out w; rw [hws] at this; exact this)
                  have ht3 := take_ok HH.out.1 hm3 HR3.out.2 (.inr (.inr hws))
                  obtain ⟨n4, hn4⟩ : ∃ n : Nat, m3 + W3 = n := ⟨_, rfl⟩
                  have hn4i : ((m3 : Int) + (W3 : Int)) = (n4 : Int) := by omega
                  have hm4 : n4 ≤ K := by rw [← hn4]; exact ht3.1
                  clear hws HWS ht3
                  go_wp2_with fail
                  refine (HWS'.out _).mono ?_
                  rintro e w9 ⟨rfl, rfl⟩
                  go_wp2_with fail
                  go_roundg (K - n4)
                  case measure => omega
                  case rel => exact ⟨n4, by first | rfl | go_num, hm4, Nat.le_refl _, HR3.out.1⟩
      · have ht1 := take_ok HH.out.1 hm HR.out.2.1 (.inl hnc)
        obtain ⟨hmW, hW1⟩ := ht1
        clear hnc
        go_wp2_with fail
        go_roundg (K - (m + W))
        case measure => omega
        case rel => exact ⟨m + W, by go_num, hmW, Nat.le_refl _, HR1.out⟩
  case rest =>
    obtain ⟨m, rfl, hhalt, hR⟩ := hcut
    have hmK : m ≤ K := hhalt.1
    have HR := Lib.hid (And.intro hR hhalt)
    have cl := hR.1.cell 0
    have cl0 : wc.cell? ⟨w.heap.size + 1, 0, none⟩ = some (.int .i32 st) := cl
    clear hR hhalt cl
    rcases (show m = 0 ∨ ∃ k, m = k + 1 by rcases m with _ | k; exact .inl rfl; exact .inr ⟨k, rfl⟩) with rfl | ⟨k, rfl⟩
    · go_wp2_with (refine wpList_store_blk rfl 63 _ _ rfl (w.heap.size + 1 + 1) #[.int .i32 0, .int .i32 0] (c2 st 0) HR.out.1.2.1 rfl ?_ rfl (c2_info _ _) (c2_one _ _) ?_; rotate_left; intro w5 hb5 hg5)
      case refine_1 => unfold c2; go_simp
      refine bodyPost_ret (v := .agg (c2 st 0)) (results_cell_row (d := _) Tryd.results28 _ _ (w.heap.size + 1 + 1) 63 _ (0, 0) (by rfl) hb5 Tryd.underlying63 rfl (c2_info _ _)) rfl ?_
      exact ⟨0, by first | rfl | (unfold c2; simp), by omega, fun r hr => halt_run HR.out.2 hr, HR.out.1.2.2.grown hg5 (by have := HR.out.1.1.lt; omega) (fun x e => by cases e; omega)⟩
    · have hkT : k < T.size := by omega
      have eb := byteAt_get T k hkT
      have hbl := byteAt_lt T k
      obtain ⟨b, hb⟩ : ∃ b, byteAt T k = b := ⟨_, rfl⟩
      rw [hb] at eb hbl
      have hwb : wrap32 (b : Int) = (b : Int) := by unfold wrap32; omega
      have HB := Lib.hid hb
      have hk1 : k + 1 < 2147483648 := by omega
      have HWS := Lib.hid (fun w => ws_any (b : Int) w)
      clear hb hbl
      cases hws : isWS (b : Int)
      · have HWS' := Lib.hid (fun w => by have := HWS.out w; rw [hws] at this; exact this)
        clear hws HWS
        go_wp2_with (first | (go_at_call 37; refine (HWS'.out _).mono ?_; rintro e w9 ⟨rfl, rfl⟩) | (refine wpList_store_blk rfl 63 _ _ rfl (w.heap.size + 1 + 1) #[.int .i32 0, .int .i32 0] (c2 st ((k : Int) + 1)) HR.out.1.2.1 rfl ?_ rfl (c2_info _ _) (c2_one _ _) ?_; rotate_left; intro w5 hb5 hg5))
        case refine_1 => unfold c2; go_simp
        refine bodyPost_ret (v := .agg (c2 st ((k : Int) + 1))) (results_cell_row (d := _) Tryd.results28 _ _ (w.heap.size + 1 + 1) 63 _ (0, 0) (by rfl) hb5 Tryd.underlying63 rfl (c2_info _ _)) rfl ?_
        exact ⟨k + 1, by first | rfl | (unfold c2; simp), by omega, fun r hr => halt_run HR.out.2 hr, HR.out.1.2.2.grown hg5 (by have := HR.out.1.1.lt; omega) (fun x e => by cases e; omega)⟩
      · have HWS' := Lib.hid (fun w => by have := HWS.out w; rw [hws] at this; exact this)
        have HNC := Lib.hid (ws_not_cont hws)
        have hk2 : k < 2147483648 := by omega
        clear hws HWS
        go_wp2_with (first | (go_at_call 37; refine (HWS'.out _).mono ?_; rintro e w9 ⟨rfl, rfl⟩) | (refine wpList_store_blk rfl 63 _ _ rfl (w.heap.size + 1 + 1) #[.int .i32 0, .int .i32 0] (c2 st (k : Int)) HR.out.1.2.1 rfl ?_ rfl (c2_info _ _) (c2_one _ _) ?_; rotate_left; intro w5 hb5 hg5))
        case refine_1 => unfold c2; go_simp
        refine bodyPost_ret (v := .agg (c2 st (k : Int))) (results_cell_row (d := _) Tryd.results28 _ _ (w.heap.size + 1 + 1) 63 _ (0, 0) (by rfl) hb5 Tryd.underlying63 rfl (c2_info _ _)) rfl ?_
        exact ⟨k, by first | rfl | (unfold c2; simp), by omega, (fun r hr => by
          have h1 := halt_run HR.out.2 hr
          by_cases c : r ≤ k
          · exact c
          · have := hr.2 k (by omega)
            rw [Nat.zero_add, HB.out, HNC.out] at this
            cases this), HR.out.1.2.2.grown hg5 (by have := HR.out.1.1.lt; omega) (fun x e => by cases e; omega)⟩
end Go.Proofs.YtpgfepilblhpdaaDoor
