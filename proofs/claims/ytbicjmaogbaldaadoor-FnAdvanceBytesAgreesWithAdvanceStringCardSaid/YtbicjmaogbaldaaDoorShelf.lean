/-
  DERIVED: THE SHELF's CONTRACTS AT THIS DUMP, IN PLAIN WORDS (tools/lay-plain.mjs out of 'TrydShelf.lean', which tools/lay-shelf.mjs wrote): THE SAME DECLARATIONS UNDER THE SAME NAMES: 'import', 'namespace', 'open', 'def', 'theorem' AND NOTHING ELSE: no command of the shelf's: FOR A HAND-IN. Each laying: the table of numbers ('.._ren') and one theorem, a field a fact of the dump's own or the kernel's comparison; each contract: ONE APPLICATION.
-/
import Derived.Shelf.Spec.DecodeRune
import Derived.Test.YtbicjmaogbaldaaDoorProg
namespace Go.Proofs
open Go.Shelf
def Tryd.lays7_32_ren : Go.Shelf.Ren := ⟨fun | 32 => 8 | 49 => 9 | n => n, fun | 30 => 22 | 21 => 21 | 3 => 3 | 0 => 0 | 5 => 5 | 4 => 4 | 33 => 30 | 66 => 32 | 25 => 33 | 69 => 36 | 68 => 35 | n => n, fun | 2 => 0 | 3 => 1 | n => n⟩
theorem Tryd.lays7_32 : Go.Proofs.Lays7.n32 Tryd.prog Tryd.lays7_32_ren := {
  mixed := by kernel_rfl
  f32 := Tryd.func8.trans (congrArg some (by kernel_rfl))
  f49 := Tryd.func9.trans (congrArg some (by kernel_rfl))
  t0 := Tryd.underlying0
  a0 := Tryd.isAgg0
  z0 := Tryd.sizeOf0
  v0 := Tryd.zeroValue0
  i0 := by kernel_rfl
  t3 := Tryd.underlying3
  a3 := Tryd.isAgg3
  z3 := Tryd.sizeOf3
  v3 := Tryd.zeroValue3
  i3 := by kernel_rfl
  t4 := Tryd.underlying4
  a4 := Tryd.isAgg4
  z4 := Tryd.sizeOf4
  v4 := Tryd.zeroValue4
  i4 := by kernel_rfl
  t5 := Tryd.underlying5
  a5 := Tryd.isAgg5
  z5 := Tryd.sizeOf5
  v5 := Tryd.zeroValue5
  i5 := by kernel_rfl
  t21 := Tryd.underlying21
  a21 := Tryd.isAgg21
  z21 := Tryd.sizeOf21
  v21 := Tryd.zeroValue21
  i21 := by kernel_rfl
  t25 := Tryd.underlying33
  a25 := Tryd.isAgg33
  z25 := Tryd.sizeOf33
  v25 := Tryd.zeroValue33
  i25 := by kernel_rfl
  t30 := Tryd.underlying22
  a30 := Tryd.isAgg22
  z30 := Tryd.sizeOf22
  v30 := Tryd.zeroValue22
  i30 := by kernel_rfl
  t33 := Tryd.underlying30
  a33 := Tryd.isAgg30
  z33 := Tryd.sizeOf30
  v33 := Tryd.zeroValue30
  i33 := by kernel_rfl
  t66 := Tryd.underlying32
  a66 := Tryd.isAgg32
  z66 := Tryd.sizeOf32
  t68 := Tryd.underlying35
  a68 := Tryd.isAgg35
  z68 := Tryd.sizeOf35
  v68 := Tryd.zeroValue35
  i68 := by kernel_rfl
  t69 := Tryd.underlying36
  a69 := Tryd.isAgg36
  z69 := Tryd.sizeOf36
  v69 := Tryd.zeroValue36
  i69 := by kernel_rfl
  g2 := by kernel_rfl
  g3 := by kernel_rfl }
open Go.RowKit Go.Lib in
/-- unicode/utf8.DecodeRune at every slice of bytes that is not nil. -/
theorem Tryd.utf8_DecodeRune (s : ByteArray) (b off cap : Nat) (w : World) (hT : Lib.Utf8Tabs 0 1 w) (hp : ∀ j, j < s.size → w.cell? ⟨b, off + j, none⟩ = some (.int .u8 (s.get! j).toNat)) :
    Calls Tryd.prog 8 #[.slice (some ⟨b, off, none⟩) s.size cap] w fun e w' => e = .returned (.tuple #[.int .i32 (Lib.decodeGo s).1, .int .i64 (Lib.decodeGo s).2]) ∧ Below w.heap.size w w' := Any7.utf8_DecodeRune Tryd.lays7_32 s b off cap w hT hp
end Go.Proofs
