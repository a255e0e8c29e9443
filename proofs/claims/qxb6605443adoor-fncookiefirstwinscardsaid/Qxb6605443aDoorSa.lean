/-
  DERIVED: the shelf at this dump, in plain words (by lay-shelf.mjs and lay-plain.mjs), what this seat needs of it.
-/
import Derived.Shelf.Strings.Trim
import Derived.Shelf.Strings.SlTrimAscii
import Derived.Shelf.Small.Strs
import Derived.Test.Qxb6605443aDoorChecked
namespace Go.Proofs
open Go.Shelf
def Tryd.lays160_ren : Go.Shelf.Ren := ⟨fun | 160 => 21 | 232 => 27 | 231 => 26 | 227 => 28 | 234 => 30 | 233 => 29 | 236 => 32 | 235 => 31 | 228 => 38 | 271 => 40 | 151 => 39 | 197 => 23 | 120 => 46 | 152 => 45 | 260 => 34 | 137 => 22 | 119 => 48 | 224 => 43 | 225 => 42 | 217 => 33 | 266 => 41 | n => n, fun | 9 => 9 | 4 => 4 | 3 => 3 | 5 => 5 | 117 => 47 | 116 => 46 | 0 => 0 | 124 => 50 | 21 => 21 | 105 => 41 | 46 => 36 | 119 => 62 | 139 => 65 | 138 => 64 | n => n, fun | 3 => 3 | 4 => 4 | n => n⟩
theorem Tryd.lays160 : Go.Proofs.Lays.n160 Tryd.prog Tryd.lays160_ren := {
  mixed := by kernel_rfl
  f119 := Tryd.func48.trans (congrArg some (by kernel_rfl))
  f120 := Tryd.func46.trans (congrArg some (by kernel_rfl))
  f137 := Tryd.func22.trans (congrArg some (by kernel_rfl))
  f151 := Tryd.func39.trans (congrArg some (by kernel_rfl))
  f152 := Tryd.func45.trans (congrArg some (by kernel_rfl))
  f160 := Tryd.func21.trans (congrArg some (by kernel_rfl))
  f197 := Tryd.func23.trans (congrArg some (by kernel_rfl))
  f217 := Tryd.func33.trans (congrArg some (by kernel_rfl))
  f224 := Tryd.func43.trans (congrArg some (by kernel_rfl))
  f225 := Tryd.func42.trans (congrArg some (by kernel_rfl))
  f227 := Tryd.func28.trans (congrArg some (by kernel_rfl))
  f228 := Tryd.func38.trans (congrArg some (by kernel_rfl))
  f231 := Tryd.func26.trans (congrArg some (by kernel_rfl))
  f232 := Tryd.func27.trans (congrArg some (by kernel_rfl))
  f233 := Tryd.func29.trans (congrArg some (by kernel_rfl))
  f234 := Tryd.func30.trans (congrArg some (by kernel_rfl))
  f235 := Tryd.func31.trans (congrArg some (by kernel_rfl))
  f236 := Tryd.func32.trans (congrArg some (by kernel_rfl))
  f260 := Tryd.func34.trans (congrArg some (by kernel_rfl))
  f266 := Tryd.func41.trans (congrArg some (by kernel_rfl))
  f271 := Tryd.func40.trans (congrArg some (by kernel_rfl))
  t0 := Tryd.underlying0
  a0 := Tryd.isAgg0
  z0 := Tryd.sizeOf0
  v0 := Tryd.zeroValue0
  t3 := Tryd.underlying3
  a3 := Tryd.isAgg3
  z3 := Tryd.sizeOf3
  v3 := Tryd.zeroValue3
  t4 := Tryd.underlying4
  a4 := Tryd.isAgg4
  z4 := Tryd.sizeOf4
  v4 := Tryd.zeroValue4
  t5 := Tryd.underlying5
  a5 := Tryd.isAgg5
  z5 := Tryd.sizeOf5
  v5 := Tryd.zeroValue5
  t9 := Tryd.underlying9
  a9 := Tryd.isAgg9
  z9 := Tryd.sizeOf9
  v9 := Tryd.zeroValue9
  t21 := Tryd.underlying21
  a21 := Tryd.isAgg21
  z21 := Tryd.sizeOf21
  v21 := Tryd.zeroValue21
  t46 := Tryd.underlying36
  a46 := Tryd.isAgg36
  z46 := Tryd.sizeOf36
  v46 := Tryd.zeroValue36
  t105 := Tryd.underlying41
  a105 := Tryd.isAgg41
  z105 := Tryd.sizeOf41
  v105 := Tryd.zeroValue41
  t116 := Tryd.underlying46
  a116 := Tryd.isAgg46
  z116 := Tryd.sizeOf46
  t117 := Tryd.underlying47
  a117 := Tryd.isAgg47
  z117 := Tryd.sizeOf47
  v117 := Tryd.zeroValue47
  t119 := Tryd.underlying62
  a119 := Tryd.isAgg62
  z119 := Tryd.sizeOf62
  t124 := Tryd.underlying50
  a124 := Tryd.isAgg50
  z124 := Tryd.sizeOf50
  v124 := Tryd.zeroValue50
  t138 := Tryd.underlying64
  a138 := Tryd.isAgg64
  z138 := Tryd.sizeOf64
  v138 := Tryd.zeroValue64
  t139 := Tryd.underlying65
  a139 := Tryd.isAgg65
  z139 := Tryd.sizeOf65
  v139 := Tryd.zeroValue65
  g3 := by kernel_rfl
  g4 := by kernel_rfl }
open Go.RowKit in
theorem Tryd.strings_Trim_one (s : ByteArray) (c : UInt8) (hc : c.toNat < 128) (w : World) (hs : s.size ≤ 9223372036854775807) :
    Calls Tryd.prog 21 #[.string s, .string ⟨#[c]⟩] w fun e w' => e = .returned (.string ⟨(Lib.trimB s.data.toList c).toArray⟩) ∧ (w' = w ∨ w' = w.drew) := Any.strings_Trim_one Tryd.lays160 s c hc w hs
def Tryd.lays137_ren : Go.Shelf.Ren := ⟨fun | 137 => 22 | 217 => 33 | 266 => 41 | n => n, fun | 9 => 9 | 5 => 5 | 3 => 3 | n => n, fun | n => n⟩
theorem Tryd.lays137 : Go.Proofs.Lays.n137 Tryd.prog Tryd.lays137_ren := {
  mixed := by kernel_rfl
  f137 := Tryd.func22.trans (congrArg some (by kernel_rfl))
  f217 := Tryd.func33.trans (congrArg some (by kernel_rfl))
  f266 := Tryd.func41.trans (congrArg some (by kernel_rfl))
  t3 := Tryd.underlying3
  a3 := Tryd.isAgg3
  z3 := Tryd.sizeOf3
  v3 := Tryd.zeroValue3
  t5 := Tryd.underlying5
  a5 := Tryd.isAgg5
  z5 := Tryd.sizeOf5
  v5 := Tryd.zeroValue5
  t9 := Tryd.underlying9
  a9 := Tryd.isAgg9
  z9 := Tryd.sizeOf9
  v9 := Tryd.zeroValue9 }
open Go.RowKit in
theorem Tryd.strings_IndexByte (s : ByteArray) (c : Int) (w : World) :
    Calls Tryd.prog 22 #[.string s, .int .u8 c] w fun e w' => e = .returned (.int .i64 (Lib.indexByte s.data.toList c.toNat.toUInt8)) ∧ w' = w := Any.strings_IndexByte Tryd.lays137 s c w
open Go.RowKit in
theorem Tryd.strings_Trim_set (s cutset : ByteArray) (w : World) (hs : s.size ≤ 9223372036854775807) (hcs : cutset.size < 4294967281)
    (hascii : ∀ (j : Nat) b, cutset.data.toList[j]? = some b → b.toNat < 128) :
    Calls Tryd.prog 21 #[.string s, .string cutset] w fun e w' => e = .returned (.string ⟨(Lib.trimS s.data.toList cutset.data.toList).toArray⟩) ∧ Below w.heap.size w w' :=
  Any.strings_Trim_laid Tryd.lays160 (by kernel_rfl) s cutset w hs hcs hascii
end Go.Proofs
