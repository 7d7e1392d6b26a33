/-
  The law's small functions: bounds, the comparison of two lists, the tracker's wrapper. No statement of the seat is proved here.
-/
import Derived.Test.YtgollalliomhfaaDoorAv
namespace Go.Proofs.YtgollalliomhfaaDoor
open Go.Maps Go.ChangeShapes Go.WideShapes Go.RowKit
set_option linter.unusedVariables false
set_option linter.unusedSimpArgs false

def SomeBool (e : Ending) : Prop := ∃ b : Bool, e = .returned (.bool b)
set_option maxHeartbeats 1000000 in
set_option maxRecDepth 100000 in
theorem zb_any (a : ByteArray) (b1 b2 b3 b4 b5 b6 b7 b8 : Bool) (kl kd : Int) (ao : Option Addr) (n cap : Nat) (ts : List ByteArray) (hn : ts.length = n) (w : World) (hin : InS w ao ts) :
    Calls Tryd.prog 4 #[.string a, .bool b1, .bool b2, .bool b3, .bool b4, .int .i32 kl, .bool b5, .bool b6, .int .u8 kd, .slice ao n cap, .bool b7, .bool b8] w fun e w' => SomeBool e ∧ w' = w := by
  by_cases h0 : (a.size : Int) > 1048576
  · go_enter Tryd.func4, Tryd.ntmps4
    go_wp2_with fail
    go_ret
    exact ⟨⟨false, rfl⟩, rfl⟩
  · have h1 : decide ((1048576 : Int) < (a.size : Int)) = false := by simp; omega
    by_cases h2 : (n : Int) > 1048576
    · go_enter Tryd.func4, Tryd.ntmps4
      go_wp2_with fail
      go_ret
      exact ⟨⟨false, rfl⟩, rfl⟩
    · have h3 : decide ((1048576 : Int) < (n : Int)) = false := by simp; omega
      obtain ⟨y0, hy0⟩ : ∃ y, IntKind.i64.wrap ((a.size : Int) + (n : Int)) = y := ⟨_, rfl⟩
      by_cases h4 : y0 > 1048576
      · have h5 : decide ((1048576 : Int) < y0) = true := by simp; omega
        go_enter Tryd.func4, Tryd.ntmps4
        go_wp2_with fail
        go_ret
        exact ⟨⟨false, rfl⟩, rfl⟩
      · have h5 : decide ((1048576 : Int) < y0) = false := by simp; omega
        go_enter Tryd.func4, Tryd.ntmps4
        go_wp2_with fail
        go_loopg [25, 26] n (fun k a b wr => ∃ (x : Int) (i : Nat), a = .int .i64 x ∧ b = .int .i64 (i : Int) ∧ i ≤ n ∧ n - i ≤ k ∧ wr = w)
        case atStart => exact ⟨_, 0, rfl, rfl, by omega, by omega, rfl⟩
        case round =>
          obtain ⟨x, i, rfl, rfl, hi, hk, rfl⟩ := hrel
          rcases (show i = n ∨ i < n by omega) with rfl | hlt
          · go_wp2_with fail
            go_ret
            exact ⟨⟨true, rfl⟩, rfl⟩
          · obtain ⟨b, off, rfl, _, hc⟩ := hin.at (i := i) (by omega)
            obtain ⟨t, ht⟩ : ∃ t, tth ts i = t := ⟨_, rfl⟩
            rw [ht] at hc
            by_cases h2 : (t.size : Int) > 1048576
            · go_wp2_with fail
              go_ret
              exact ⟨⟨false, rfl⟩, rfl⟩
            · have h3 : decide ((1048576 : Int) < (t.size : Int)) = false := by simp; omega
              obtain ⟨y, hy⟩ : ∃ y, IntKind.i64.wrap (x + (t.size : Int)) = y := ⟨_, rfl⟩
              by_cases h4 : y > 1048576
              · have h5 : decide ((1048576 : Int) < y) = true := by simp; omega
                go_wp2_with fail
                go_ret
                exact ⟨⟨false, rfl⟩, rfl⟩
              · have h5 : decide ((1048576 : Int) < y) = false := by simp; omega
                go_wp2_with fail
                go_roundg (n - (i + 1))
                case measure => omega
                case rel => exact ⟨y, i + 1, rfl, by go_num, hlt, Nat.le_refl _, rfl⟩
def FitB (n : Nat) (e : Ending) : Prop := ∃ b : Bool, e = .returned (.bool b) ∧ (b = true → n ≤ 4096)
set_option maxHeartbeats 1000000 in
set_option maxRecDepth 100000 in
theorem fit_any (a : ByteArray) (ao : Option Addr) (n cap : Nat) (ts : List ByteArray) (hn : ts.length = n) (w : World) (hin : InS w ao ts) :
    Calls Tryd.prog 5 #[.string a, .slice ao n cap] w fun e w' => FitB n e ∧ w' = w := by
  by_cases h0 : (a.size : Int) > 65536
  · go_enter Tryd.func5, Tryd.ntmps5
    go_wp2_with fail
    go_ret
    exact ⟨⟨false, rfl, by simp⟩, rfl⟩
  · have h1 : decide ((65536 : Int) < (a.size : Int)) = false := by simp; omega
    by_cases h2 : (n : Int) > 4096
    · have h2' : decide ((4096 : Int) < (n : Int)) = true := by simp; omega
      go_enter Tryd.func5, Tryd.ntmps5
      go_wp2_with fail
      go_ret
      exact ⟨⟨false, rfl, by simp⟩, rfl⟩
    · have h3 : decide ((4096 : Int) < (n : Int)) = false := by simp; omega
      have hn4 : n ≤ 4096 := by omega
      go_enter Tryd.func5, Tryd.ntmps5
      go_wp2_with fail
      go_loopg [5, 6] n (fun k a b wr => ∃ (x : Int) (i : Nat), a = .int .i64 x ∧ b = .int .i64 (i : Int) ∧ i ≤ n ∧ n - i ≤ k ∧ wr = w)
      case atStart => exact ⟨_, 0, rfl, rfl, by omega, by omega, rfl⟩
      case round =>
        obtain ⟨x, i, rfl, rfl, hi, hk, rfl⟩ := hrel
        rcases (show n = i ∨ i < n by omega) with he | hlt
        · obtain rfl := he
          go_wp2_with fail
          go_ret
          exact ⟨⟨_, rfl, fun _ => hn4⟩, rfl⟩
        · obtain ⟨b, off, rfl, _, hc⟩ := hin.at (i := i) (by omega)
          obtain ⟨t, ht⟩ : ∃ t, tth ts i = t := ⟨_, rfl⟩
          rw [ht] at hc
          obtain ⟨y, hy⟩ : ∃ y, IntKind.i64.wrap (x + (t.size : Int)) = y := ⟨_, rfl⟩
          by_cases h4 : y > 1048576
          · have h5 : decide ((1048576 : Int) < y) = true := by simp; omega
            go_wp2_with fail
            go_ret
            exact ⟨⟨false, rfl, by simp⟩, rfl⟩
          · have h5 : decide ((1048576 : Int) < y) = false := by simp; omega
            go_wp2_with fail
            go_roundg (n - (i + 1))
            case measure => omega
            case rel => exact ⟨y, i + 1, rfl, by go_num, hlt, Nat.le_refl _, rfl⟩
theorem ims_at : ∀ (ss : List Int) (i : Nat), i < ss.length → (ims ss)[i * 5]? = some (.slice none 0 0) ∧ (ims ss)[i * 5 + 1]? = some (.int .i32 0) ∧ (ims ss)[i * 5 + 2]? = some (.int .u32 0) ∧ (ims ss)[i * 5 + 2 + 1]? = some (.int .u32 0) ∧ (ims ss)[i * 5 + 4]? = some (.int .u32 (ss.getD i 0))
  | [], i, h => by simp at h
  | s :: r, 0, h => by simp [ims]
  | s :: r, i + 1, h => by
    have ih := ims_at r i (by simpa using h)
    have e : ∀ k, (ims (s :: r))[(i + 1) * 5 + k]? = (ims r)[i * 5 + k]? := fun k => by
      rw [show ims (s :: r) = [.slice none 0 0, .int .i32 0, .int .u32 0, .int .u32 0, .int .u32 s] ++ ims r from rfl, List.getElem?_append_right (by simp only [List.length_cons, List.length_nil]; omega)]
      show (ims r)[(i + 1) * 5 + k - 5]? = _
      rw [show (i + 1) * 5 + k - 5 = i * 5 + k by omega]
    have e0 := e 0
    simp only [Nat.add_zero] at e0
    exact ⟨e0.trans ih.1, (e 1).trans ih.2.1, (e 2).trans ih.2.2.1, (e 3).trans ih.2.2.2.1, (e 4).trans (by rw [ih.2.2.2.2]; simp)⟩
theorem Am.grow {w w' : World} {v : Value} {ss : List Int} (h : Am w v ss) (hg : w.grownBy w' none) : Am w' v ss := by
  rcases h with h | ⟨A, h1, h2, h3⟩
  · exact .inl h
  · exact .inr ⟨A, h1, h2.gb hg (by simp), h3⟩
set_option maxHeartbeats 4000000 in
set_option maxRecDepth 100000 in
theorem amb_any (v u : Value) (ss : List Int) (w : World) (h1 : Am w v ss) (h2 : Am w u ss) (hss : ss = [] → v = u) (hne : ss ≠ [] → ∃ A, v = .slice (some ⟨A, 0, none⟩) ss.length ss.length ∧ Blk w A 40 (ims ss).toArray) (hne2 : ss ≠ [] → ∃ A, u = .slice (some ⟨A, 0, none⟩) ss.length ss.length ∧ Blk w A 40 (ims ss).toArray) (hni : ss = [] → v = .slice none 0 0) (h8 : ss.length ≤ 8) :
    Calls Tryd.prog 9 #[v, u] w fun e w' => e = .returned (.bool true) ∧ w.grownBy w' none := by
  by_cases he : ss = []
  · obtain rfl := hss he
    obtain rfl := hni he
    clear h1 h2 hne hne2 hss hni
    have hn1 := fun (w : World) => Lib.run_eql_slice_nil (P := Tryd.prog) w 32 40 none 0 0 0 0 Tryd.underlying32
    simp only [Option.isNone_none] at hn1
    go_enter Tryd.func9, Tryd.ntmps9
    go_wp2_with fail
    go_loopg [5] 0 (fun k x wx => x = .int .i64 0 ∧ w = wx)
    case atStart => exact ⟨rfl, rfl⟩
    case round =>
      obtain ⟨rfl, rfl⟩ := hrel
      go_wp2_with fail
      go_ret
      exact ⟨rfl, gb_refl _ _⟩
  · obtain ⟨A, rfl, hA⟩ := hne he
    obtain ⟨A2, rfl, hA2⟩ := hne2 he
    obtain ⟨n, hn⟩ : ∃ n, ss.length = n := ⟨_, rfl⟩
    rw [hn] at h8 ⊢
    have HA := Lib.hid (And.intro hA (And.intro hA2 hn))
    clear h1 h2 hne hne2 hss hni hA hA2 he hn
    have hn1 := fun (w : World) => Lib.run_eql_slice_nil (P := Tryd.prog) w 32 40 (some ⟨A, 0, none⟩) n n 0 0 Tryd.underlying32
    have hn2 := fun (w : World) => Lib.run_eql_slice_nil (P := Tryd.prog) w 32 40 (some ⟨A2, 0, none⟩) n n 0 0 Tryd.underlying32
    simp only [Option.isNone_some] at hn1 hn2
    go_enter Tryd.func9, Tryd.ntmps9
    go_wp2_with fail
    clear hn1 hn2
    go_loopg [5] n (fun k x wx => ∃ i : Nat, x = .int .i64 (i : Int) ∧ i ≤ n ∧ n - i ≤ k ∧ Hid (w.grownBy wx none))
    case atStart => exact ⟨0, rfl, by omega, by omega, Lib.hid (gb_refl _ _)⟩
    case round =>
      obtain ⟨i, rfl, hi, hk, HG⟩ := hrel
      obtain ⟨wz, rfl⟩ : ∃ wz : World, wz = wr := ⟨_, rfl⟩
      obtain ⟨gO, rfl⟩ : ∃ gO, gO = gk := ⟨_, rfl⟩
      rcases (show n = i ∨ i < n by omega) with he | hlt
      · obtain rfl := he
        go_wp2_with fail
        go_ret
        exact ⟨rfl, HG.out⟩
      · obtain ⟨m0, m1, m2, m3, m4⟩ := ims_at ss i (by rw [HA.out.2.2]; exact hlt)
        have hA := HA.out.1.gb HG.out (by simp)
        have hA2 := HA.out.2.1.gb HG.out (by simp)
        obtain ⟨s, hs⟩ : ∃ s, ss.getD i 0 = s := ⟨_, rfl⟩
        rw [hs] at m4
        have c0 : wz.cell? ⟨A, i * 5, none⟩ = some (.slice none 0 0) := (hA.cell _).trans (by simpa using m0)
        have c1 : wz.cell? ⟨A, i * 5 + 1, none⟩ = some (.int .i32 0) := (hA.cell _).trans (by simpa using m1)
        have c2 : wz.cell? ⟨A, i * 5 + 2, none⟩ = some (.int .u32 0) := (hA.cell _).trans (by simpa using m2)
        have c3 : wz.cell? ⟨A, i * 5 + 2 + 1, none⟩ = some (.int .u32 0) := (hA.cell _).trans (by simpa using m3)
        have c4 : wz.cell? ⟨A, i * 5 + 4, none⟩ = some (.int .u32 s) := (hA.cell _).trans (by simpa using m4)
        have d0 : wz.cell? ⟨A2, i * 5, none⟩ = some (.slice none 0 0) := (hA2.cell _).trans (by simpa using m0)
        have d1 : wz.cell? ⟨A2, i * 5 + 1, none⟩ = some (.int .i32 0) := (hA2.cell _).trans (by simpa using m1)
        have d2 : wz.cell? ⟨A2, i * 5 + 2, none⟩ = some (.int .u32 0) := (hA2.cell _).trans (by simpa using m2)
        have d3 : wz.cell? ⟨A2, i * 5 + 2 + 1, none⟩ = some (.int .u32 0) := (hA2.cell _).trans (by simpa using m3)
        have d4 : wz.cell? ⟨A2, i * 5 + 4, none⟩ = some (.int .u32 s) := (hA2.cell _).trans (by simpa using m4)
        have lA := hA.lt
        have lA2 := hA2.lt
        have hss : decide (s = s) = true := by simp
        clear hA hA2 m0 m1 m2 m3 m4 hs
        go_upto_region 6 with fail
        go_quiet (fail)
        go_wp2_with fail
        go_loopg [6] 0 (fun k x wx => x = .int .i64 0 ∧ wz.drewN nq = wx)
        case atStart => exact ⟨rfl, rfl⟩
        case round =>
          obtain ⟨rfl, hwr⟩ := hrel
          have c0' : wr.cell? ⟨A, i * 5, none⟩ = some (.slice none 0 0) := by rw [← hwr]; exact c0
          have HWR := Lib.hid hwr
          clear hwr
          go_wp2_with fail
          go_roundg (gO - 1)
          case measure => omega
          case rel => exact ⟨i + 1, by go_num, by omega, by omega, Lib.hid (by rw [← HWR.out]; exact gb_trans HG.out (gb_drewN _ _))⟩
theorem info31' (a b : Value) : (Tryd.prog.info? 31).map (·.size) = some (#[a, b] : Array Value).size := by kernel_rfl
theorem res8 (tmps : Array Value) (w : World) (g : Nat) (a b x6 x7 x9 x10 : Value) (hp : tmps.getD 8 undef = .pointer (some ⟨g, 0, none⟩)) (h6 : tmps.getD 6 undef = x6) (h7 : tmps.getD 7 undef = x7) (h9 : tmps.getD 9 undef = x9) (h10 : tmps.getD 10 undef = x10) (hg : Blk w g 31 #[a, b]) :
    (results Tryd.f8 tmps).run Tryd.prog w = .ok (.tuple #[x6, x7, .agg #[a, b], x9, x10]) w := by
  have hp' : tmps[8]?.getD undef = .pointer (some ⟨g, 0, none⟩) := by simpa using hp
  have h6' : tmps[6]?.getD undef = x6 := by simpa using h6
  have h7' : tmps[7]?.getD undef = x7 := by simpa using h7
  have h9' : tmps[9]?.getD undef = x9 := by simpa using h9
  have h10' : tmps[10]?.getD undef = x10 := by simpa using h10
  simp [results, Tryd.results8, hp', h6', h7', h9', h10', asAddr, run_loadVar_row w g 31 31 #[a, b] (0, 0) _ hg Tryd.underlying31 rfl (info31' a b)]
def Rz (k : Nat) (j : Int) (e : Ending) (w' : World) : Prop :=
  ∃ av, e = .returned (.tuple #[.int .u32 (tab k j).1.1, .int .i32 (tab k j).1.2.1, .agg #[.int .u32 (tab k j).1.2.2.1, .int .u32 (tab k j).1.2.2.2], .int .u8 (tab k j).2.1, av]) ∧ Am w' av (tab k j).2.2
set_option maxHeartbeats 4000000 in
set_option maxRecDepth 100000 in
theorem zadv_any (C F P R M1 O M2 n : Nat) (ts : List ByteArray) (so : Option Nat) (a : ByteArray) (star ex rv lazy : Bool) (kl : Int) (ur um : Bool) (kd : Int) (tx : Bool) (has : a.size ≤ maxLen) (w : World) (hw : Lw w C F P R M1 O M2 n ts so a star ex rv lazy kl ur um kd (ldI tx)) :
    Calls Tryd.prog 8 #[.pointer (some ⟨C, 0, none⟩), .int .u32 0, .agg #[.int .u32 0, .int .u32 0]] w fun e w' => Rz (cls star ex rv lazy kl a ur um kd so.isSome (lastS ts a n).isSome tx) (((lastS ts a n).getD 0 : Nat) : Int) e w' ∧ w.grownBy w' none := by
  have hadv : ∀ w1, w.grownBy w1 none → Calls Tryd.prog 12 #[.pointer (some ⟨C, 0, none⟩), .agg #[.int .u32 0, .int .i32 0, .int .u32 0, .int .u32 0]] w1 fun e w' => Rs (cls star ex rv lazy kl a ur um kd so.isSome (lastS ts a n).isSome tx) (((lastS ts a n).getD 0 : Nat) : Int) e w' ∧ w1.grownBy w' none :=
    fun w1 h1 => adv_any C F P R M1 O M2 n ts so a star ex rv lazy kl ur um kd tx has w1 (hw.grow h1)
  clear hw has
  obtain ⟨⟨⟨s, l, r1, r2⟩, st, ss⟩, ht⟩ : ∃ t, tab (cls star ex rv lazy kl a ur um kd so.isSome (lastS ts a n).isSome tx) (((lastS ts a n).getD 0 : Nat) : Int) = t := ⟨_, rfl⟩
  unfold Rs at hadv
  unfold Rz
  rw [ht] at hadv ⊢
  have HADV := Lib.hid hadv
  clear hadv ht
  obtain ⟨T, hT⟩ : ∃ T, w.heap.size = T := ⟨_, rfl⟩
  have hz : (zeroValue 31).run Tryd.prog (w.alloc (.cells #[.int .u32 0, .int .u32 0] 31)) = .ok (.agg #[.int .u32 0, .int .u32 0]) (w.alloc (.cells #[.int .u32 0, .int .u32 0] 31)) := by kernel_rfl
  go_enter Tryd.func8, Tryd.ntmps8
  go_upto_region 1 with fail
  clear hz
  obtain ⟨w1, hw1⟩ : ∃ w1, ((w.alloc (.cells #[.int .u32 0, .int .u32 0] 31)).alloc (.cells #[.int .u32 0, .int .u32 0] 31)) = w1 := ⟨_, rfl⟩
  have H1 : Hid (Blk w1 T 31 #[.int .u32 0, .int .u32 0] ∧ Blk w1 (T + 1) 31 #[.int .u32 0, .int .u32 0] ∧ w.grownBy w1 none) := Lib.hid (by
    have hg : w.grownBy w1 none := by rw [← hw1]; exact gb_alloc (gb_alloc (gb_refl _ _) _) _
    refine ⟨?_, ?_, hg⟩
    · rw [← hw1, ← hT]; exact (Blk.new _ _ _).alloc _
    · have := Blk.new (w.alloc (.cells #[.int .u32 0, .int .u32 0] 31)) 31 #[.int .u32 0, .int .u32 0]
      rw [show (w.alloc (.cells #[.int .u32 0, .int .u32 0] 31)).heap.size = w.heap.size + 1 by simp, hT, hw1] at this
      exact this)
  rw [hw1]
  have HT := Lib.hid hT
  clear hw1 hT
  have t0 : w1.cell? ⟨T, 0, none⟩ = some (.int .u32 0) := H1.out.1.cell 0
  have t1 : w1.cell? ⟨T, 1, none⟩ = some (.int .u32 0) := H1.out.1.cell 1
  have lT := H1.out.1.lt
  go_upto_region 2 with (go_at_call 12; go_loud (refine (HADV.out _ H1.out.2.2).mono ?_); go_loud (rintro e w5 ⟨⟨av, rfl, hAm⟩, hg⟩); go_loud (have hz5 : (zeroValue 194).run Tryd.prog w5 = .ok (.agg #[.int .u32 0, .int .i32 0, .int .u32 0, .int .u32 0]) w5 := by kernel_rfl); go_loud (have H5 := Lib.hid (And.intro hAm hg)); go_loud (clear hAm hg))
  clear hz5 t0 t1 lT
  obtain ⟨N, hN⟩ : ∃ N, w5.heap.size = N := ⟨_, rfl⟩
  rw [hN]
  obtain ⟨w6, hw6⟩ : ∃ w6, (w5.alloc (.cells #[.int .u32 s, .int .i32 l, .int .u32 r1, .int .u32 r2] 194)) = w6 := ⟨_, rfl⟩
  have H6 : Hid (Blk w6 (T + 1) 31 #[.int .u32 0, .int .u32 0] ∧ Blk w6 N 194 #[.int .u32 s, .int .i32 l, .int .u32 r1, .int .u32 r2] ∧ Am w6 av ss ∧ w.grownBy w6 none) := Lib.hid (by
    have hg : w5.grownBy w6 none := by rw [← hw6]; exact gb_alloc (gb_refl _ _) _
    have h2 := Blk.new w5 194 #[.int .u32 s, .int .i32 l, .int .u32 r1, .int .u32 r2]
    rw [hN, hw6] at h2
    exact ⟨(H1.out.2.1.gb H5.out.2 (by simp)).gb hg (by simp), h2, H5.out.1.grow hg, gb_trans (gb_trans H1.out.2.2 H5.out.2) hg⟩)
  rw [hw6]
  clear hw6 hN
  have hNT : ¬ N = T + 1 := fun e => by
    have h1 := H6.out.1
    have h2 := H6.out.2.1
    unfold Blk at h1 h2
    rw [← e, h2] at h1
    cases h1
  have t2 := H6.out.1
  have n1 := H6.out.2.1
  have f0 : w6.drew.frozen? ⟨T + 1, 0, none⟩ = false := t2.free 0
  have f1 : w6.drew.frozen? ⟨T + 1, 0 + 1, none⟩ = false := t2.free 1
  have k0 : w6.drew.cell? ⟨T + 1, 0, none⟩ = some (.int .u32 0) := t2.cell 0
  have k1 : w6.drew.cell? ⟨T + 1, 0 + 1, none⟩ = some (.int .u32 0) := t2.cell 1
  have f0' := t2.free 0
  have f1' := t2.free 1
  have k0' : w6.cell? ⟨T + 1, 0, none⟩ = some (.int .u32 0) := t2.cell 0
  have k1' : w6.cell? ⟨T + 1, 1, none⟩ = some (.int .u32 0) := t2.cell 1
  have g0 : w6.drew.cell? ⟨N, 0, none⟩ = some (.int .u32 s) := n1.cell 0
  have g1 : w6.drew.cell? ⟨N, 1, none⟩ = some (.int .i32 l) := n1.cell 1
  have g2 : w6.drew.cell? ⟨N, 2, none⟩ = some (.int .u32 r1) := n1.cell 2
  have g3 : w6.drew.cell? ⟨N, 2 + 1, none⟩ = some (.int .u32 r2) := n1.cell 3
  have h0 : w6.cell? ⟨N, 0, none⟩ = some (.int .u32 s) := n1.cell 0
  have h1 : w6.cell? ⟨N, 1, none⟩ = some (.int .i32 l) := n1.cell 1
  have gl := n1.lt
  have l1 := t2.lt
  clear t2 n1
  go_region
  all_goals go_wp2_with fail
  all_goals
    have hb : Blk ((w6.setCell ⟨T + 1, 0, none⟩ (.int .u32 r1)).setCell ⟨T + 1, 1, none⟩ (.int .u32 r2)) (T + 1) 31 #[.int .u32 r1, .int .u32 r2] := by
      have := (H6.out.1.set 0 (.int .u32 r1)).set 1 (.int .u32 r2)
      simp at this
      exact this
    have hg : w6.grownBy ((w6.setCell ⟨T + 1, 0, none⟩ (.int .u32 r1)).setCell ⟨T + 1, 1, none⟩ (.int .u32 r2)) (some (T + 1)) := gb_set (gb_set (gb_refl _ _) _ _ _) _ _ _
    refine bodyPost_ret (v := .tuple #[.int .u32 s, .int .i32 l, .agg #[.int .u32 r1, .int .u32 r2], .int .u8 st, av]) (res8 _ _ (T + 1) _ _ _ _ _ _ (by rfl) (by rfl) (by rfl) (by rfl) (by rfl) hb) rfl ⟨⟨av, rfl, ?_⟩, gb_drew (gb_new (gb_trans (gb_none H6.out.2.2.2) hg) (by have := HT.out; omega))⟩
    rcases H6.out.2.2.1 with h | ⟨A, q1, q2, q3⟩
    · exact .inl h
    · refine .inr ⟨A, q1, (q2.gb hg (fun e => ?_)).drew, q3⟩
      have h1 := H6.out.1
      have e := Option.some.inj e
      unfold Blk at h1 q2
      rw [← e, q2] at h1
      have h3 := Option.some.inj h1
      rw [Obj.cells.injEq] at h3
      exact absurd h3.2.1 (by decide)
end Go.Proofs.YtgollalliomhfaaDoor
