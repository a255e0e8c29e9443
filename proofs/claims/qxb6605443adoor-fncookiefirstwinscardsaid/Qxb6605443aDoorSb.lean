/-
  DERIVED: the shelf at this dump, in plain words (by lay-shelf.mjs and lay-plain.mjs), what this seat needs of it.
-/
import Derived.Shelf.Unicode.Decode
import Derived.Shelf.Strings.Cut
import Derived.Shelf.Strings.Search2
import Derived.Test.Qxb6605443aDoorChecked
namespace Go.Proofs
open Go.Shelf
def Tryd.lays145_ren : Go.Shelf.Ren := ⟨fun | 145 => 20 | 220 => 25 | 219 => 37 | 217 => 33 | 225 => 42 | 224 => 43 | 267 => 44 | 266 => 41 | 314 => 47 | n => n, fun | 9 => 9 | 4 => 4 | 59 => 38 | 3 => 3 | 5 => 5 | 46 => 36 | 146 => 73 | 51 => 66 | n => n, fun | 1 => 5 | n => n⟩
theorem Tryd.lays145 : Go.Proofs.Lays.n145 Tryd.prog Tryd.lays145_ren := {
  mixed := by kernel_rfl
  f145 := Tryd.func20.trans (congrArg some (by kernel_rfl))
  f217 := Tryd.func33.trans (congrArg some (by kernel_rfl))
  f219 := Tryd.func37.trans (congrArg some (by kernel_rfl))
  f220 := Tryd.func25.trans (congrArg some (by kernel_rfl))
  f224 := Tryd.func43.trans (congrArg some (by kernel_rfl))
  f225 := Tryd.func42.trans (congrArg some (by kernel_rfl))
  f266 := Tryd.func41.trans (congrArg some (by kernel_rfl))
  f267 := Tryd.func44.trans (congrArg some (by kernel_rfl))
  f314 := Tryd.func47.trans (congrArg some (by kernel_rfl))
  t3 := Tryd.underlying3
  a3 := Tryd.isAgg3
  z3 := Tryd.sizeOf3
  v3 := Tryd.zeroValue3
  t4 := Tryd.underlying4
  a4 := Tryd.isAgg4
  z4 := Tryd.sizeOf4
  v4 := Tryd.zeroValue4
  t5 := Tryd.underlying5
  a5 := Tryd.isAgg5
  z5 := Tryd.sizeOf5
  v5 := Tryd.zeroValue5
  t9 := Tryd.underlying9
  a9 := Tryd.isAgg9
  z9 := Tryd.sizeOf9
  v9 := Tryd.zeroValue9
  t46 := Tryd.underlying36
  a46 := Tryd.isAgg36
  z46 := Tryd.sizeOf36
  v46 := Tryd.zeroValue36
  t51 := Tryd.underlying66
  a51 := Tryd.isAgg66
  z51 := Tryd.sizeOf66
  v51 := Tryd.zeroValue66
  t59 := Tryd.underlying38
  a59 := Tryd.isAgg38
  z59 := Tryd.sizeOf38
  v59 := Tryd.zeroValue38
  t146 := Tryd.underlying73
  a146 := Tryd.isAgg73
  z146 := Tryd.sizeOf73
  v146 := Tryd.zeroValue73
  g1 := by kernel_rfl }
open Go.RowKit Go.Lib in
theorem Tryd.strings_Cut (s sep : ByteArray) (m : Int) (w : World) (hs : s.size < 4294967281) (hm : w.cell? ⟨5, 0, none⟩ = some (.int .i64 m)) :
    Calls Tryd.prog 20 #[.string s, .string sep] w fun e w' => e = .returned (.tuple #[.string ⟨(Lib.cut s.data.toList sep.data.toList).1.toArray⟩, .string ⟨(Lib.cut s.data.toList sep.data.toList).2.1.toArray⟩, .bool (Lib.cut s.data.toList sep.data.toList).2.2]) ∧ ∃ n, w' = w.drewN n := Any.strings_Cut Tryd.lays145 s sep m w hs hm
def Tryd.lays197_ren : Go.Shelf.Ren := ⟨fun | 197 => 23 | 260 => 34 | n => n, fun | 9 => 9 | 21 => 21 | 3 => 3 | 4 => 4 | 5 => 5 | 105 => 41 | 119 => 62 | 0 => 0 | 46 => 36 | 139 => 65 | 138 => 64 | n => n, fun | 3 => 3 | 4 => 4 | n => n⟩
theorem Tryd.lays197 : Go.Proofs.Lays.n197 Tryd.prog Tryd.lays197_ren := {
  mixed := by kernel_rfl
  f197 := Tryd.func23.trans (congrArg some (by kernel_rfl))
  f260 := Tryd.func34.trans (congrArg some (by kernel_rfl))
  t0 := Tryd.underlying0
  a0 := Tryd.isAgg0
  z0 := Tryd.sizeOf0
  v0 := Tryd.zeroValue0
  t3 := Tryd.underlying3
  a3 := Tryd.isAgg3
  z3 := Tryd.sizeOf3
  v3 := Tryd.zeroValue3
  t4 := Tryd.underlying4
  a4 := Tryd.isAgg4
  z4 := Tryd.sizeOf4
  v4 := Tryd.zeroValue4
  t5 := Tryd.underlying5
  a5 := Tryd.isAgg5
  z5 := Tryd.sizeOf5
  v5 := Tryd.zeroValue5
  t9 := Tryd.underlying9
  a9 := Tryd.isAgg9
  z9 := Tryd.sizeOf9
  v9 := Tryd.zeroValue9
  t21 := Tryd.underlying21
  a21 := Tryd.isAgg21
  z21 := Tryd.sizeOf21
  v21 := Tryd.zeroValue21
  t46 := Tryd.underlying36
  a46 := Tryd.isAgg36
  z46 := Tryd.sizeOf36
  v46 := Tryd.zeroValue36
  t105 := Tryd.underlying41
  a105 := Tryd.isAgg41
  z105 := Tryd.sizeOf41
  v105 := Tryd.zeroValue41
  t119 := Tryd.underlying62
  a119 := Tryd.isAgg62
  z119 := Tryd.sizeOf62
  t138 := Tryd.underlying64
  a138 := Tryd.isAgg64
  z138 := Tryd.sizeOf64
  v138 := Tryd.zeroValue64
  t139 := Tryd.underlying65
  a139 := Tryd.isAgg65
  z139 := Tryd.sizeOf65
  v139 := Tryd.zeroValue65
  g3 := by kernel_rfl
  g4 := by kernel_rfl }
open Go.RowKit Go.Lib in
theorem Tryd.utf8_DecodeRuneInString_ascii (s : ByteArray) (x : UInt8) (w : World) (h0 : s.data.toList[0]? = some x) (hx : x.toNat < 128) :
    Calls Tryd.prog 23 #[.string s] w fun e w' => e = .returned (.tuple #[.int .i32 x.toNat, .int .i64 1]) ∧ w' = w := Any.utf8_DecodeRuneInString_ascii Tryd.lays197 s x w h0 hx
end Go.Proofs
