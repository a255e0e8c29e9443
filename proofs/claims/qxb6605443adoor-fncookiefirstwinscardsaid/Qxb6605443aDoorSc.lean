/-
  DERIVED: the shelf at this dump, in plain words (by lay-shelf.mjs and lay-plain.mjs), what this seat needs of it.
-/
import Derived.Shelf.Unicode.CaseLookup
import Derived.Test.Qxb6605443aDoorChecked
namespace Go.Proofs
open Go.Shelf
def Tryd.lays274_ren : Go.Shelf.Ren := ⟨fun | 274 => 35 | n => n, fun | 21 => 21 | 162 => 58 | 160 => 56 | 3 => 3 | 4 => 4 | 46 => 36 | 0 => 0 | 208 => 70 | 51 => 66 | 206 => 68 | n => n, fun | 13 => 2 | n => n⟩
theorem Tryd.lays274 : Go.Proofs.Lays.n274 Tryd.prog Tryd.lays274_ren := {
  mixed := by kernel_rfl
  f274 := Tryd.func35.trans (congrArg some (by kernel_rfl))
  t0 := Tryd.underlying0
  a0 := Tryd.isAgg0
  z0 := Tryd.sizeOf0
  v0 := Tryd.zeroValue0
  t3 := Tryd.underlying3
  a3 := Tryd.isAgg3
  z3 := Tryd.sizeOf3
  v3 := Tryd.zeroValue3
  t4 := Tryd.underlying4
  a4 := Tryd.isAgg4
  z4 := Tryd.sizeOf4
  v4 := Tryd.zeroValue4
  t21 := Tryd.underlying21
  a21 := Tryd.isAgg21
  z21 := Tryd.sizeOf21
  v21 := Tryd.zeroValue21
  t46 := Tryd.underlying36
  a46 := Tryd.isAgg36
  z46 := Tryd.sizeOf36
  v46 := Tryd.zeroValue36
  t51 := Tryd.underlying66
  a51 := Tryd.isAgg66
  z51 := Tryd.sizeOf66
  v51 := Tryd.zeroValue66
  t160 := Tryd.underlying56
  a160 := Tryd.isAgg56
  z160 := Tryd.sizeOf56
  v160 := Tryd.zeroValue56
  t162 := Tryd.underlying58
  a162 := Tryd.isAgg58
  z162 := Tryd.sizeOf58
  v162 := Tryd.zeroValue58
  t208 := Tryd.underlying70
  a208 := Tryd.isAgg70
  z208 := Tryd.sizeOf70
  v208 := Tryd.zeroValue70 }
end Go.Proofs
