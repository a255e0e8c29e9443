/-
  DERIVED: THE SHELF's CONTRACTS AT THIS DUMP, IN PLAIN WORDS (tools/lay-plain.mjs out of 'Qxb6600587aDoorShelfX.lean', which tools/lay-shelf.mjs wrote): THE SAME DECLARATIONS UNDER THE SAME NAMES: 'import', 'namespace', 'open', 'def', 'theorem' AND NOTHING ELSE: no command of the shelf's: FOR A HAND-IN. Each laying: the table of numbers ('.._ren') and one theorem, a field a fact of the dump's own or the kernel's comparison; each contract: ONE APPLICATION.
-/
import Derived.Shelf.Spec.DecodeRune
import Derived.Test.Qxb6600587aDoorChecked
namespace Go.Proofs
open Go.Shelf
def Tryd.lays732_ren : Go.Shelf.Ren := ⟨fun | 32 => 21 | 49 => 28 | n => n, fun | 30 => 22 | 21 => 21 | 3 => 3 | 0 => 0 | 5 => 5 | 4 => 4 | 33 => 42 | 66 => 53 | 25 => 49 | 69 => 56 | 68 => 55 | n => n, fun | 2 => 1 | 3 => 2 | n => n⟩
theorem Tryd.lays732 : Go.Proofs.Lays7.n32 Tryd.prog Tryd.lays732_ren := {
  mixed := by kernel_rfl
  f32 := Tryd.func21.trans (congrArg some (by kernel_rfl))
  f49 := Tryd.func28.trans (congrArg some (by kernel_rfl))
  t0 := Tryd.underlying0
  a0 := Tryd.isAgg0
  z0 := Tryd.sizeOf0
  v0 := Tryd.zeroValue0
  i0 := by kernel_rfl
  t3 := Tryd.underlying3
  a3 := Tryd.isAgg3
  z3 := Tryd.sizeOf3
  v3 := Tryd.zeroValue3
  i3 := by kernel_rfl
  t4 := Tryd.underlying4
  a4 := Tryd.isAgg4
  z4 := Tryd.sizeOf4
  v4 := Tryd.zeroValue4
  i4 := by kernel_rfl
  t5 := Tryd.underlying5
  a5 := Tryd.isAgg5
  z5 := Tryd.sizeOf5
  v5 := Tryd.zeroValue5
  i5 := by kernel_rfl
  t21 := Tryd.underlying21
  a21 := Tryd.isAgg21
  z21 := Tryd.sizeOf21
  v21 := Tryd.zeroValue21
  i21 := by kernel_rfl
  t25 := Tryd.underlying49
  a25 := Tryd.isAgg49
  z25 := Tryd.sizeOf49
  v25 := Tryd.zeroValue49
  i25 := by kernel_rfl
  t30 := Tryd.underlying22
  a30 := Tryd.isAgg22
  z30 := Tryd.sizeOf22
  v30 := Tryd.zeroValue22
  i30 := by kernel_rfl
  t33 := Tryd.underlying42
  a33 := Tryd.isAgg42
  z33 := Tryd.sizeOf42
  v33 := Tryd.zeroValue42
  i33 := by kernel_rfl
  t66 := Tryd.underlying53
  a66 := Tryd.isAgg53
  z66 := Tryd.sizeOf53
  t68 := Tryd.underlying55
  a68 := Tryd.isAgg55
  z68 := Tryd.sizeOf55
  v68 := Tryd.zeroValue55
  i68 := by kernel_rfl
  t69 := Tryd.underlying56
  a69 := Tryd.isAgg56
  z69 := Tryd.sizeOf56
  v69 := Tryd.zeroValue56
  i69 := by kernel_rfl
  g2 := by kernel_rfl
  g3 := by kernel_rfl }
end Go.Proofs
