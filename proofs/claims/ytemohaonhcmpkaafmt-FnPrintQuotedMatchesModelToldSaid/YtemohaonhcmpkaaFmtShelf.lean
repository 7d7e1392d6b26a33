/-
  DERIVED: THE SHELF's CONTRACTS AT THIS DUMP, IN PLAIN WORDS (tools/lay-plain.mjs out of 'TryfShelf.lean', which tools/lay-shelf.mjs wrote): THE SAME DECLARATIONS UNDER THE SAME NAMES: 'import', 'namespace', 'open', 'def', 'theorem' AND NOTHING ELSE: no command of the shelf's: FOR A HAND-IN. Each laying: the table of numbers ('.._ren') and one theorem, a field a fact of the dump's own or the kernel's comparison; each contract: ONE APPLICATION.
-/
import Derived.Shelf.Small.Utf8
import Derived.Shelf.Strings.Fold
import Derived.Shelf.Unicode.Decode
import Derived.Shelf.Unicode.DecodeSlow
import Derived.Shelf.Unicode.DecodeAny
import Derived.Shelf.Unicode.CaseLookup
import Derived.Shelf.Unicode.CaseConvert
import Derived.Shelf.Spec.EncodeRune
import Derived.Test.YtemohaonhcmpkaaFmtProg
namespace Go.Proofs
open Go.Shelf
def Tryf.lays118_ren : Go.Shelf.Ren := ⟨fun | 118 => 25 | n => n, fun | 21 => 21 | 3 => 3 | 4 => 4 | n => n, fun | n => n⟩
theorem Tryf.lays118 : Go.Proofs.Lays.n118 Tryf.prog Tryf.lays118_ren := {
  mixed := by kernel_rfl
  f118 := Tryf.func25.trans (congrArg some (by kernel_rfl))
  t3 := Tryf.underlying3
  a3 := Tryf.isAgg3
  z3 := Tryf.sizeOf3
  v3 := Tryf.zeroValue3
  t4 := Tryf.underlying4
  a4 := Tryf.isAgg4
  z4 := Tryf.sizeOf4
  v4 := Tryf.zeroValue4
  t21 := Tryf.underlying21
  a21 := Tryf.isAgg21
  z21 := Tryf.sizeOf21
  v21 := Tryf.zeroValue21 }
/-- utf8.RuneLen: "RuneLen returns the number of bytes in the UTF-8 encoding of the rune. It returns -1 if the rune is not a valid value to encode in UTF-8.": IT RETURNS 'Lib.runeLen r'; the world is as it was. (LAID: no walk: one application.) -/
theorem Tryf.utf8_RuneLen (r : Int) (w : World) :
    Calls Tryf.prog 25 #[.int .i32 r] w fun e w' => e = .returned (.int .i64 (Lib.runeLen r)) ∧ w' = w := Any.utf8_RuneLen Tryf.lays118 r w
def Tryf.lays164_ren : Go.Shelf.Ren := ⟨fun | 164 => 19 | 197 => 17 | 239 => 22 | 260 => 21 | 274 => 26 | 275 => 27 | n => n, fun | 9 => 9 | 4 => 4 | 3 => 3 | 5 => 5 | 0 => 0 | 21 => 21 | 105 => 67 | 156 => 83 | 49 => 35 | 157 => 84 | 46 => 79 | 159 => 86 | 162 => 89 | 160 => 87 | 119 => 78 | 139 => 82 | 138 => 81 | 208 => 94 | 51 => 34 | 206 => 92 | n => n, fun | 11 => 2 | 12 => 3 | 13 => 4 | 3 => 0 | 4 => 1 | n => n⟩
theorem Tryf.lays164 : Go.Proofs.Lays.n164 Tryf.prog Tryf.lays164_ren := {
  mixed := by kernel_rfl
  f164 := Tryf.func19.trans (congrArg some (by kernel_rfl))
  f197 := Tryf.func17.trans (congrArg some (by kernel_rfl))
  f239 := Tryf.func22.trans (congrArg some (by kernel_rfl))
  f260 := Tryf.func21.trans (congrArg some (by kernel_rfl))
  f274 := Tryf.func26.trans (congrArg some (by kernel_rfl))
  f275 := Tryf.func27.trans (congrArg some (by kernel_rfl))
  t0 := Tryf.underlying0
  a0 := Tryf.isAgg0
  z0 := Tryf.sizeOf0
  v0 := Tryf.zeroValue0
  t3 := Tryf.underlying3
  a3 := Tryf.isAgg3
  z3 := Tryf.sizeOf3
  v3 := Tryf.zeroValue3
  t4 := Tryf.underlying4
  a4 := Tryf.isAgg4
  z4 := Tryf.sizeOf4
  v4 := Tryf.zeroValue4
  t5 := Tryf.underlying5
  a5 := Tryf.isAgg5
  z5 := Tryf.sizeOf5
  v5 := Tryf.zeroValue5
  t9 := Tryf.underlying9
  a9 := Tryf.isAgg9
  z9 := Tryf.sizeOf9
  v9 := Tryf.zeroValue9
  t21 := Tryf.underlying21
  a21 := Tryf.isAgg21
  z21 := Tryf.sizeOf21
  v21 := Tryf.zeroValue21
  t46 := Tryf.underlying79
  a46 := Tryf.isAgg79
  z46 := Tryf.sizeOf79
  v46 := Tryf.zeroValue79
  t49 := Tryf.underlying35
  a49 := Tryf.isAgg35
  z49 := Tryf.sizeOf35
  v49 := Tryf.zeroValue35
  t51 := Tryf.underlying34
  a51 := Tryf.isAgg34
  z51 := Tryf.sizeOf34
  v51 := Tryf.zeroValue34
  t105 := Tryf.underlying67
  a105 := Tryf.isAgg67
  z105 := Tryf.sizeOf67
  v105 := Tryf.zeroValue67
  t119 := Tryf.underlying78
  a119 := Tryf.isAgg78
  z119 := Tryf.sizeOf78
  t138 := Tryf.underlying81
  a138 := Tryf.isAgg81
  z138 := Tryf.sizeOf81
  v138 := Tryf.zeroValue81
  t139 := Tryf.underlying82
  a139 := Tryf.isAgg82
  z139 := Tryf.sizeOf82
  v139 := Tryf.zeroValue82
  t156 := Tryf.underlying83
  a156 := Tryf.isAgg83
  z156 := Tryf.sizeOf83
  t157 := Tryf.underlying84
  a157 := Tryf.isAgg84
  z157 := Tryf.sizeOf84
  v157 := Tryf.zeroValue84
  t159 := Tryf.underlying86
  a159 := Tryf.isAgg86
  z159 := Tryf.sizeOf86
  v159 := Tryf.zeroValue86
  t160 := Tryf.underlying87
  a160 := Tryf.isAgg87
  z160 := Tryf.sizeOf87
  v160 := Tryf.zeroValue87
  t162 := Tryf.underlying89
  a162 := Tryf.isAgg89
  z162 := Tryf.sizeOf89
  v162 := Tryf.zeroValue89
  t206 := Tryf.underlying92
  a206 := Tryf.isAgg92
  z206 := Tryf.sizeOf92
  v206 := Tryf.zeroValue92
  t208 := Tryf.underlying94
  a208 := Tryf.isAgg94
  z208 := Tryf.sizeOf94
  v208 := Tryf.zeroValue94
  g3 := by kernel_rfl
  g4 := by kernel_rfl
  g11 := by kernel_rfl
  g12 := by kernel_rfl
  g13 := by kernel_rfl }
open Go.RowKit Go.Lib in
theorem Tryf.strings_EqualFold (s t : ByteArray) (w : World) (hs : s.size < 4294967281) (has : ∀ (j : Nat) b, s.data.toList[j]? = some b → b.toNat < 128) (hat : ∀ (j : Nat) b, t.data.toList[j]? = some b → b.toNat < 128) :
    Calls Tryf.prog 19 #[.string s, .string t] w fun e w' => e = .returned (.bool (Lib.equalFold s.data.toList t.data.toList)) ∧ w' = w := Any.strings_EqualFold Tryf.lays164 s t w hs has hat
def Tryf.lays197_ren : Go.Shelf.Ren := ⟨fun | 197 => 17 | 260 => 21 | n => n, fun | 9 => 9 | 21 => 21 | 3 => 3 | 4 => 4 | 5 => 5 | 105 => 67 | 119 => 78 | 0 => 0 | 46 => 79 | 139 => 82 | 138 => 81 | n => n, fun | 3 => 0 | 4 => 1 | n => n⟩
theorem Tryf.lays197 : Go.Proofs.Lays.n197 Tryf.prog Tryf.lays197_ren := {
  mixed := by kernel_rfl
  f197 := Tryf.func17.trans (congrArg some (by kernel_rfl))
  f260 := Tryf.func21.trans (congrArg some (by kernel_rfl))
  t0 := Tryf.underlying0
  a0 := Tryf.isAgg0
  z0 := Tryf.sizeOf0
  v0 := Tryf.zeroValue0
  t3 := Tryf.underlying3
  a3 := Tryf.isAgg3
  z3 := Tryf.sizeOf3
  v3 := Tryf.zeroValue3
  t4 := Tryf.underlying4
  a4 := Tryf.isAgg4
  z4 := Tryf.sizeOf4
  v4 := Tryf.zeroValue4
  t5 := Tryf.underlying5
  a5 := Tryf.isAgg5
  z5 := Tryf.sizeOf5
  v5 := Tryf.zeroValue5
  t9 := Tryf.underlying9
  a9 := Tryf.isAgg9
  z9 := Tryf.sizeOf9
  v9 := Tryf.zeroValue9
  t21 := Tryf.underlying21
  a21 := Tryf.isAgg21
  z21 := Tryf.sizeOf21
  v21 := Tryf.zeroValue21
  t46 := Tryf.underlying79
  a46 := Tryf.isAgg79
  z46 := Tryf.sizeOf79
  v46 := Tryf.zeroValue79
  t105 := Tryf.underlying67
  a105 := Tryf.isAgg67
  z105 := Tryf.sizeOf67
  v105 := Tryf.zeroValue67
  t119 := Tryf.underlying78
  a119 := Tryf.isAgg78
  z119 := Tryf.sizeOf78
  t138 := Tryf.underlying81
  a138 := Tryf.isAgg81
  z138 := Tryf.sizeOf81
  v138 := Tryf.zeroValue81
  t139 := Tryf.underlying82
  a139 := Tryf.isAgg82
  z139 := Tryf.sizeOf82
  v139 := Tryf.zeroValue82
  g3 := by kernel_rfl
  g4 := by kernel_rfl }
open Go.RowKit Go.Lib in
/-- unicode/utf8.DecodeRuneInString: "DecodeRuneInString is like DecodeRune but its input is a string.": ("DecodeRune unpacks the first UTF-8 encoding in p and returns the rune and its width in bytes."): WHERE s BEGINS WITH AN ASCII BYTE x: (x, 1). (LAID: no walk: one application.) -/
theorem Tryf.utf8_DecodeRuneInString_ascii (s : ByteArray) (x : UInt8) (w : World) (h0 : s.data.toList[0]? = some x) (hx : x.toNat < 128) :
    Calls Tryf.prog 17 #[.string s] w fun e w' => e = .returned (.tuple #[.int .i32 x.toNat, .int .i64 1]) ∧ w' = w := Any.utf8_DecodeRuneInString_ascii Tryf.lays197 s x w h0 hx
def Tryf.lays260_ren : Go.Shelf.Ren := ⟨fun | 260 => 21 | n => n, fun | 9 => 9 | 21 => 21 | 3 => 3 | 4 => 4 | 5 => 5 | 119 => 78 | 0 => 0 | 46 => 79 | 139 => 82 | 138 => 81 | n => n, fun | 3 => 0 | 4 => 1 | n => n⟩
theorem Tryf.lays260 : Go.Proofs.Lays.n260 Tryf.prog Tryf.lays260_ren := {
  mixed := by kernel_rfl
  f260 := Tryf.func21.trans (congrArg some (by kernel_rfl))
  t0 := Tryf.underlying0
  a0 := Tryf.isAgg0
  z0 := Tryf.sizeOf0
  v0 := Tryf.zeroValue0
  t3 := Tryf.underlying3
  a3 := Tryf.isAgg3
  z3 := Tryf.sizeOf3
  v3 := Tryf.zeroValue3
  t4 := Tryf.underlying4
  a4 := Tryf.isAgg4
  z4 := Tryf.sizeOf4
  v4 := Tryf.zeroValue4
  t5 := Tryf.underlying5
  a5 := Tryf.isAgg5
  z5 := Tryf.sizeOf5
  v5 := Tryf.zeroValue5
  t9 := Tryf.underlying9
  a9 := Tryf.isAgg9
  z9 := Tryf.sizeOf9
  v9 := Tryf.zeroValue9
  t21 := Tryf.underlying21
  a21 := Tryf.isAgg21
  z21 := Tryf.sizeOf21
  v21 := Tryf.zeroValue21
  t46 := Tryf.underlying79
  a46 := Tryf.isAgg79
  z46 := Tryf.sizeOf79
  v46 := Tryf.zeroValue79
  t119 := Tryf.underlying78
  a119 := Tryf.isAgg78
  z119 := Tryf.sizeOf78
  t138 := Tryf.underlying81
  a138 := Tryf.isAgg81
  z138 := Tryf.sizeOf81
  v138 := Tryf.zeroValue81
  t139 := Tryf.underlying82
  a139 := Tryf.isAgg82
  z139 := Tryf.sizeOf82
  v139 := Tryf.zeroValue82
  g3 := by kernel_rfl
  g4 := by kernel_rfl }
open Go.RowKit Go.Lib in
theorem Tryf.utf8_decodeRuneInStringSlow (s : ByteArray) (w : World) (hT : Lib.Utf8Tabs 0 1 w) :
    Calls Tryf.prog 21 #[.string s] w fun e w' => e = .returned (.tuple #[.int .i32 (Lib.decodeGo s).1, .int .i64 (Lib.decodeGo s).2]) ∧ Below w.heap.size w w' := Any.utf8_decodeRuneInStringSlow Tryf.lays260 s w hT
open Go.RowKit Go.Lib in
/-- **unicode/utf8.DecodeRuneInString AT EVERY STRING.** (LAID: no walk: one application.) -/
theorem Tryf.utf8_DecodeRuneInString (s : ByteArray) (w : World) (hT : Lib.Utf8Tabs 0 1 w) :
    Calls Tryf.prog 17 #[.string s] w fun e w' => e = .returned (.tuple #[.int .i32 (Lib.decodeGo s).1, .int .i64 (Lib.decodeGo s).2]) ∧ Below w.heap.size w w' := Any.utf8_DecodeRuneInString Tryf.lays197 s w hT
def Tryf.lays274_ren : Go.Shelf.Ren := ⟨fun | 274 => 26 | n => n, fun | 21 => 21 | 162 => 89 | 160 => 87 | 3 => 3 | 4 => 4 | 46 => 79 | 0 => 0 | 208 => 94 | 51 => 34 | 206 => 92 | n => n, fun | n => n⟩
theorem Tryf.lays274 : Go.Proofs.Lays.n274 Tryf.prog Tryf.lays274_ren := {
  mixed := by kernel_rfl
  f274 := Tryf.func26.trans (congrArg some (by kernel_rfl))
  t0 := Tryf.underlying0
  a0 := Tryf.isAgg0
  z0 := Tryf.sizeOf0
  v0 := Tryf.zeroValue0
  t3 := Tryf.underlying3
  a3 := Tryf.isAgg3
  z3 := Tryf.sizeOf3
  v3 := Tryf.zeroValue3
  t4 := Tryf.underlying4
  a4 := Tryf.isAgg4
  z4 := Tryf.sizeOf4
  v4 := Tryf.zeroValue4
  t21 := Tryf.underlying21
  a21 := Tryf.isAgg21
  z21 := Tryf.sizeOf21
  v21 := Tryf.zeroValue21
  t46 := Tryf.underlying79
  a46 := Tryf.isAgg79
  z46 := Tryf.sizeOf79
  v46 := Tryf.zeroValue79
  t51 := Tryf.underlying34
  a51 := Tryf.isAgg34
  z51 := Tryf.sizeOf34
  v51 := Tryf.zeroValue34
  t160 := Tryf.underlying87
  a160 := Tryf.isAgg87
  z160 := Tryf.sizeOf87
  v160 := Tryf.zeroValue87
  t162 := Tryf.underlying89
  a162 := Tryf.isAgg89
  z162 := Tryf.sizeOf89
  v162 := Tryf.zeroValue89
  t208 := Tryf.underlying94
  a208 := Tryf.isAgg94
  z208 := Tryf.sizeOf94
  v208 := Tryf.zeroValue94 }
open Go.RowKit Go.Lib in
theorem Tryf.unicode_lookupCaseRange (T : Array CaseRow) (R oR cap : Nat) (r : Int) (w : World) (hT : CaseTab R oR T w) (hok : CaseOk T) (hn : T.size ≤ 1000000000) :
    Calls Tryf.prog 26 #[.int .i32 r, .slice (some ⟨R, oR, none⟩) T.size cap] w fun e w' =>
      e = .returned (match lookupIdx T r (T.size + 1) 0 T.size with | some i => .pointer (some ⟨R, oR + i * 5, none⟩) | none => .pointer none) ∧ w' = w := Any.unicode_lookupCaseRange Tryf.lays274 T R oR cap r w hT hok hn
def Tryf.lays275_ren : Go.Shelf.Ren := ⟨fun | 275 => 27 | n => n, fun | 3 => 3 | 21 => 21 | 160 => 87 | 0 => 0 | 208 => 94 | 206 => 92 | 4 => 4 | 51 => 34 | n => n, fun | n => n⟩
theorem Tryf.lays275 : Go.Proofs.Lays.n275 Tryf.prog Tryf.lays275_ren := {
  mixed := by kernel_rfl
  f275 := Tryf.func27.trans (congrArg some (by kernel_rfl))
  t0 := Tryf.underlying0
  a0 := Tryf.isAgg0
  z0 := Tryf.sizeOf0
  v0 := Tryf.zeroValue0
  t3 := Tryf.underlying3
  a3 := Tryf.isAgg3
  z3 := Tryf.sizeOf3
  v3 := Tryf.zeroValue3
  t4 := Tryf.underlying4
  a4 := Tryf.isAgg4
  z4 := Tryf.sizeOf4
  v4 := Tryf.zeroValue4
  t21 := Tryf.underlying21
  a21 := Tryf.isAgg21
  z21 := Tryf.sizeOf21
  v21 := Tryf.zeroValue21
  t51 := Tryf.underlying34
  a51 := Tryf.isAgg34
  z51 := Tryf.sizeOf34
  v51 := Tryf.zeroValue34
  t160 := Tryf.underlying87
  a160 := Tryf.isAgg87
  z160 := Tryf.sizeOf87
  v160 := Tryf.zeroValue87
  t206 := Tryf.underlying92
  a206 := Tryf.isAgg92
  z206 := Tryf.sizeOf92
  v206 := Tryf.zeroValue92
  t208 := Tryf.underlying94
  a208 := Tryf.isAgg94
  z208 := Tryf.sizeOf94
  v208 := Tryf.zeroValue94 }
open Go.RowKit Go.Lib in
theorem Tryf.unicode_convertCase (c : Nat) (hc : c < 3) (r : Int) (A o : Nat) (x : CaseRow) (w : World) (hlo : (x.1 : Int) ≤ r) (hhi : r ≤ (x.2.1 : Int)) (hH : x.2.1 < 2147483647) (c0 : w.cell? ⟨A, o, none⟩ = some (.int .u32 x.1)) (cD : w.cell? ⟨A, o + 2 + c, none⟩ = some (.int .i32 (x.delta c))) :
    Calls Tryf.prog 27 #[.int .i64 c, .int .i32 r, .pointer (some ⟨A, o, none⟩)] w fun e w' => e = .returned (.int .i32 (wrap32 (convertR c r x))) ∧ ∃ q, w' = w.drewN q := Any.unicode_convertCase Tryf.lays275 c hc r A o x w hlo hhi hH c0 cD
def Tryf.lays7n30_ren : Go.Shelf.Ren := ⟨fun | 30 => 23 | 47 => 28 | n => n, fun | 30 => 22 | 21 => 21 | 3 => 3 | 27 => 34 | 4 => 4 | 5 => 5 | 0 => 0 | 25 => 79 | n => n, fun | n => n⟩
theorem Tryf.lays7n30 : Go.Proofs.Lays7.n30 Tryf.prog Tryf.lays7n30_ren := {
  mixed := by kernel_rfl
  f30 := Tryf.func23.trans (congrArg some (by kernel_rfl))
  f47 := Tryf.func28.trans (congrArg some (by kernel_rfl))
  t0 := Tryf.underlying0
  a0 := Tryf.isAgg0
  z0 := Tryf.sizeOf0
  v0 := Tryf.zeroValue0
  i0 := by kernel_rfl
  t3 := Tryf.underlying3
  a3 := Tryf.isAgg3
  z3 := Tryf.sizeOf3
  v3 := Tryf.zeroValue3
  i3 := by kernel_rfl
  t4 := Tryf.underlying4
  a4 := Tryf.isAgg4
  z4 := Tryf.sizeOf4
  v4 := Tryf.zeroValue4
  i4 := by kernel_rfl
  t5 := Tryf.underlying5
  a5 := Tryf.isAgg5
  z5 := Tryf.sizeOf5
  v5 := Tryf.zeroValue5
  i5 := by kernel_rfl
  t21 := Tryf.underlying21
  a21 := Tryf.isAgg21
  z21 := Tryf.sizeOf21
  v21 := Tryf.zeroValue21
  i21 := by kernel_rfl
  t25 := Tryf.underlying79
  a25 := Tryf.isAgg79
  z25 := Tryf.sizeOf79
  v25 := Tryf.zeroValue79
  i25 := by kernel_rfl
  t27 := Tryf.underlying34
  a27 := Tryf.isAgg34
  z27 := Tryf.sizeOf34
  v27 := Tryf.zeroValue34
  i27 := by kernel_rfl
  t30 := Tryf.underlying22
  a30 := Tryf.isAgg22
  z30 := Tryf.sizeOf22
  v30 := Tryf.zeroValue22
  i30 := by kernel_rfl }
theorem Tryf.utf8_EncodeRune (b off len cap : Nat) (r : Int) (hlo : -2147483648 ≤ r) (hhi : r ≤ 2147483647) (w : World) (hl : (Lib.runeCells r).length ≤ len)
    (hc : ∀ j, j < (Lib.runeCells r).length → (w.cell? ⟨b, off + j, none⟩).isSome = true) (hf : ∀ j, j < (Lib.runeCells r).length → w.frozen? ⟨b, off + j, none⟩ = false) :
    Calls Tryf.prog 23 #[.slice (some ⟨b, off, none⟩) len cap, .int .i32 r] w fun e w' => e = .returned (.int .i64 (Lib.runeCells r).length) ∧ w' = w.setCells b off (Lib.runeCells r) := Any7.utf8_EncodeRune Tryf.lays7n30 b off len cap r hlo hhi w hl hc hf
end Go.Proofs
