/-
  DERIVED: the shelf at this dump, in plain words (by lay-shelf.mjs and lay-plain.mjs), what this seat needs of it.
-/
import Derived.Shelf.Small.Utf8
import Derived.Shelf.Small.Strs
import Derived.Shelf.Strings.Split
import Derived.Shelf.Strings.Runes
import Derived.Shelf.Strings.IndexAny
import Derived.Shelf.Strings.IndexAnyAll
import Derived.Test.Qxb6605465aDoorChecked
namespace Go.Proofs
open Go.Shelf
def Tryd.lays119_ren : Go.Shelf.Ren := ⟨fun | 119 => 38 | n => n, fun | 21 => 21 | 4 => 4 | n => n, fun | n => n⟩
theorem Tryd.lays119 : Go.Proofs.Lays.n119 Tryd.prog Tryd.lays119_ren := {
  mixed := by kernel_rfl
  f119 := Tryd.func38.trans (congrArg some (by kernel_rfl))
  t4 := Tryd.underlying4
  a4 := Tryd.isAgg4
  z4 := Tryd.sizeOf4
  v4 := Tryd.zeroValue4
  t21 := Tryd.underlying21
  a21 := Tryd.isAgg21
  z21 := Tryd.sizeOf21
  v21 := Tryd.zeroValue21 }
theorem Tryd.utf8_ValidRune (r : Int) (w : World) :
    Calls Tryd.prog 38 #[.int .i32 r] w fun e w' => e = .returned (.bool (Lib.validRune r)) ∧ w' = w := Any.utf8_ValidRune Tryd.lays119 r w
def Tryd.lays137_ren : Go.Shelf.Ren := ⟨fun | 137 => 14 | 217 => 16 | 266 => 19 | n => n, fun | 9 => 9 | 5 => 5 | 3 => 3 | n => n, fun | n => n⟩
theorem Tryd.lays137 : Go.Proofs.Lays.n137 Tryd.prog Tryd.lays137_ren := {
  mixed := by kernel_rfl
  f137 := Tryd.func14.trans (congrArg some (by kernel_rfl))
  f217 := Tryd.func16.trans (congrArg some (by kernel_rfl))
  f266 := Tryd.func19.trans (congrArg some (by kernel_rfl))
  t3 := Tryd.underlying3
  a3 := Tryd.isAgg3
  z3 := Tryd.sizeOf3
  v3 := Tryd.zeroValue3
  t5 := Tryd.underlying5
  a5 := Tryd.isAgg5
  z5 := Tryd.sizeOf5
  v5 := Tryd.zeroValue5
  t9 := Tryd.underlying9
  a9 := Tryd.isAgg9
  z9 := Tryd.sizeOf9
  v9 := Tryd.zeroValue9 }
open Go.RowKit in
theorem Tryd.strings_IndexByte (s : ByteArray) (c : Int) (w : World) :
    Calls Tryd.prog 14 #[.string s, .int .u8 c] w fun e w' => e = .returned (.int .i64 (Lib.indexByte s.data.toList c.toNat.toUInt8)) ∧ w' = w := Any.strings_IndexByte Tryd.lays137 s c w
def Tryd.lays146_ren : Go.Shelf.Ren := ⟨fun | 146 => 17 | 221 => 20 | 268 => 22 | 138 => 23 | 143 => 24 | 195 => 26 | 197 => 27 | 218 => 28 | 219 => 29 | 260 => 34 | 217 => 16 | 225 => 35 | 224 => 36 | 267 => 37 | 266 => 19 | 314 => 39 | n => n, fun | 9 => 9 | 31 => 30 | 3 => 3 | 4 => 4 | 0 => 0 | 105 => 36 | 21 => 21 | 5 => 5 | 46 => 45 | 119 => 48 | 139 => 51 | 138 => 50 | 146 => 53 | 51 => 52 | n => n, fun | 1 => 0 | 3 => 1 | 4 => 2 | n => n⟩
theorem Tryd.lays146 : Go.Proofs.Lays.n146 Tryd.prog Tryd.lays146_ren := {
  mixed := by kernel_rfl
  f138 := Tryd.func23.trans (congrArg some (by kernel_rfl))
  f143 := Tryd.func24.trans (congrArg some (by kernel_rfl))
  f146 := Tryd.func17.trans (congrArg some (by kernel_rfl))
  f195 := Tryd.func26.trans (congrArg some (by kernel_rfl))
  f197 := Tryd.func27.trans (congrArg some (by kernel_rfl))
  f217 := Tryd.func16.trans (congrArg some (by kernel_rfl))
  f218 := Tryd.func28.trans (congrArg some (by kernel_rfl))
  f219 := Tryd.func29.trans (congrArg some (by kernel_rfl))
  f221 := Tryd.func20.trans (congrArg some (by kernel_rfl))
  f224 := Tryd.func36.trans (congrArg some (by kernel_rfl))
  f225 := Tryd.func35.trans (congrArg some (by kernel_rfl))
  f260 := Tryd.func34.trans (congrArg some (by kernel_rfl))
  f266 := Tryd.func19.trans (congrArg some (by kernel_rfl))
  f267 := Tryd.func37.trans (congrArg some (by kernel_rfl))
  f268 := Tryd.func22.trans (congrArg some (by kernel_rfl))
  f314 := Tryd.func39.trans (congrArg some (by kernel_rfl))
  t0 := Tryd.underlying0
  a0 := Tryd.isAgg0
  z0 := Tryd.sizeOf0
  v0 := Tryd.zeroValue0
  t3 := Tryd.underlying3
  a3 := Tryd.isAgg3
  z3 := Tryd.sizeOf3
  v3 := Tryd.zeroValue3
  t4 := Tryd.underlying4
  a4 := Tryd.isAgg4
  z4 := Tryd.sizeOf4
  v4 := Tryd.zeroValue4
  t5 := Tryd.underlying5
  a5 := Tryd.isAgg5
  z5 := Tryd.sizeOf5
  v5 := Tryd.zeroValue5
  t9 := Tryd.underlying9
  a9 := Tryd.isAgg9
  z9 := Tryd.sizeOf9
  v9 := Tryd.zeroValue9
  t21 := Tryd.underlying21
  a21 := Tryd.isAgg21
  z21 := Tryd.sizeOf21
  v21 := Tryd.zeroValue21
  t31 := Tryd.underlying30
  a31 := Tryd.isAgg30
  z31 := Tryd.sizeOf30
  v31 := Tryd.zeroValue30
  t46 := Tryd.underlying45
  a46 := Tryd.isAgg45
  z46 := Tryd.sizeOf45
  v46 := Tryd.zeroValue45
  t51 := Tryd.underlying52
  a51 := Tryd.isAgg52
  z51 := Tryd.sizeOf52
  v51 := Tryd.zeroValue52
  t105 := Tryd.underlying36
  a105 := Tryd.isAgg36
  z105 := Tryd.sizeOf36
  v105 := Tryd.zeroValue36
  t119 := Tryd.underlying48
  a119 := Tryd.isAgg48
  z119 := Tryd.sizeOf48
  t138 := Tryd.underlying50
  a138 := Tryd.isAgg50
  z138 := Tryd.sizeOf50
  v138 := Tryd.zeroValue50
  t139 := Tryd.underlying51
  a139 := Tryd.isAgg51
  z139 := Tryd.sizeOf51
  v139 := Tryd.zeroValue51
  t146 := Tryd.underlying53
  a146 := Tryd.isAgg53
  z146 := Tryd.sizeOf53
  v146 := Tryd.zeroValue53
  g1 := by kernel_rfl
  g3 := by kernel_rfl
  g4 := by kernel_rfl }
open Go.RowKit Go.Lib in
theorem Tryd.strings_Split (s sep : ByteArray) (m : Int) (w : World) (hs : s.size < 4294967281) (hm : w.cell? ⟨0, 0, none⟩ = some (.int .i64 m)) (h1 : 1 ≤ sep.size) :
    Calls Tryd.prog 17 #[.string s, .string sep] w fun e w' =>
      e = .returned (.slice (some ⟨w.heap.size, 0, none⟩) (Lib.countB s sep + 1) (Lib.countB s sep + 1)) ∧ w' = w.alloc (.cells ((Lib.splitB sep 0 (Lib.countB s sep) s).map Value.string).toArray 9) := Any.strings_Split Tryd.lays146 (by kernel_rfl) s sep m w hs hm h1
def Tryd.lays152_ren : Go.Shelf.Ren := ⟨fun | 152 => 30 | 137 => 14 | 119 => 38 | 224 => 36 | 225 => 35 | 217 => 16 | 266 => 19 | n => n, fun | 9 => 9 | 21 => 21 | 3 => 3 | 4 => 4 | 5 => 5 | 0 => 0 | 46 => 45 | n => n, fun | n => n⟩
theorem Tryd.lays152 : Go.Proofs.Lays.n152 Tryd.prog Tryd.lays152_ren := {
  mixed := by kernel_rfl
  f119 := Tryd.func38.trans (congrArg some (by kernel_rfl))
  f137 := Tryd.func14.trans (congrArg some (by kernel_rfl))
  f152 := Tryd.func30.trans (congrArg some (by kernel_rfl))
  f217 := Tryd.func16.trans (congrArg some (by kernel_rfl))
  f224 := Tryd.func36.trans (congrArg some (by kernel_rfl))
  f225 := Tryd.func35.trans (congrArg some (by kernel_rfl))
  f266 := Tryd.func19.trans (congrArg some (by kernel_rfl))
  t0 := Tryd.underlying0
  a0 := Tryd.isAgg0
  z0 := Tryd.sizeOf0
  v0 := Tryd.zeroValue0
  t3 := Tryd.underlying3
  a3 := Tryd.isAgg3
  z3 := Tryd.sizeOf3
  v3 := Tryd.zeroValue3
  t4 := Tryd.underlying4
  a4 := Tryd.isAgg4
  z4 := Tryd.sizeOf4
  v4 := Tryd.zeroValue4
  t5 := Tryd.underlying5
  a5 := Tryd.isAgg5
  z5 := Tryd.sizeOf5
  v5 := Tryd.zeroValue5
  t9 := Tryd.underlying9
  a9 := Tryd.isAgg9
  z9 := Tryd.sizeOf9
  v9 := Tryd.zeroValue9
  t21 := Tryd.underlying21
  a21 := Tryd.isAgg21
  z21 := Tryd.sizeOf21
  v21 := Tryd.zeroValue21
  t46 := Tryd.underlying45
  a46 := Tryd.isAgg45
  z46 := Tryd.sizeOf45
  v46 := Tryd.zeroValue45 }
open Go.RowKit Go.Lib in
theorem Tryd.strings_IndexRune_ascii (s : ByteArray) (r : Int) (w : World) (h0 : 0 ≤ r) (h1 : r < 128) :
    Calls Tryd.prog 30 #[.string s, .int .i32 r] w fun e w' => e = .returned (.int .i64 (Lib.indexByte s.data.toList r.toNat.toUInt8)) ∧ w' = w := Any.strings_IndexRune_ascii Tryd.lays152 s r w h0 h1
def Tryd.lays226_ren : Go.Shelf.Ren := ⟨fun | 226 => 31 | n => n, fun | 3 => 3 | 4 => 4 | n => n, fun | n => n⟩
theorem Tryd.lays226 : Go.Proofs.Lays.n226 Tryd.prog Tryd.lays226_ren := {
  mixed := by kernel_rfl
  f226 := Tryd.func31.trans (congrArg some (by kernel_rfl))
  t3 := Tryd.underlying3
  a3 := Tryd.isAgg3
  z3 := Tryd.sizeOf3
  v3 := Tryd.zeroValue3
  t4 := Tryd.underlying4
  a4 := Tryd.isAgg4
  z4 := Tryd.sizeOf4
  v4 := Tryd.zeroValue4 }
open Go.RowKit Go.Lib in
theorem Tryd.strings_shouldUseASCIISet (n : Int) (w : World) :
    Calls Tryd.prog 31 #[.int .i64 n] w fun e w' => e = .returned (.bool (decide (8 < n))) ∧ w' = w := Any.strings_shouldUseASCIISet Tryd.lays226 n w
def Tryd.lays153_ren : Go.Shelf.Ren := ⟨fun | 153 => 25 | 152 => 30 | 226 => 31 | 227 => 32 | 228 => 33 | 137 => 14 | 119 => 38 | 224 => 36 | 225 => 35 | 217 => 16 | 266 => 19 | n => n, fun | 9 => 9 | 3 => 3 | 4 => 4 | 5 => 5 | 21 => 21 | 117 => 42 | 116 => 41 | 0 => 0 | 46 => 45 | 124 => 47 | n => n, fun | n => n⟩
theorem Tryd.lays153 : Go.Proofs.Lays.n153 Tryd.prog Tryd.lays153_ren := {
  mixed := by kernel_rfl
  f119 := Tryd.func38.trans (congrArg some (by kernel_rfl))
  f137 := Tryd.func14.trans (congrArg some (by kernel_rfl))
  f152 := Tryd.func30.trans (congrArg some (by kernel_rfl))
  f153 := Tryd.func25.trans (congrArg some (by kernel_rfl))
  f217 := Tryd.func16.trans (congrArg some (by kernel_rfl))
  f224 := Tryd.func36.trans (congrArg some (by kernel_rfl))
  f225 := Tryd.func35.trans (congrArg some (by kernel_rfl))
  f226 := Tryd.func31.trans (congrArg some (by kernel_rfl))
  f227 := Tryd.func32.trans (congrArg some (by kernel_rfl))
  f228 := Tryd.func33.trans (congrArg some (by kernel_rfl))
  f266 := Tryd.func19.trans (congrArg some (by kernel_rfl))
  t0 := Tryd.underlying0
  a0 := Tryd.isAgg0
  z0 := Tryd.sizeOf0
  v0 := Tryd.zeroValue0
  t3 := Tryd.underlying3
  a3 := Tryd.isAgg3
  z3 := Tryd.sizeOf3
  v3 := Tryd.zeroValue3
  t4 := Tryd.underlying4
  a4 := Tryd.isAgg4
  z4 := Tryd.sizeOf4
  v4 := Tryd.zeroValue4
  t5 := Tryd.underlying5
  a5 := Tryd.isAgg5
  z5 := Tryd.sizeOf5
  v5 := Tryd.zeroValue5
  t9 := Tryd.underlying9
  a9 := Tryd.isAgg9
  z9 := Tryd.sizeOf9
  v9 := Tryd.zeroValue9
  t21 := Tryd.underlying21
  a21 := Tryd.isAgg21
  z21 := Tryd.sizeOf21
  v21 := Tryd.zeroValue21
  t46 := Tryd.underlying45
  a46 := Tryd.isAgg45
  z46 := Tryd.sizeOf45
  v46 := Tryd.zeroValue45
  t116 := Tryd.underlying41
  a116 := Tryd.isAgg41
  z116 := Tryd.sizeOf41
  t117 := Tryd.underlying42
  a117 := Tryd.isAgg42
  z117 := Tryd.sizeOf42
  v117 := Tryd.zeroValue42
  t124 := Tryd.underlying47
  a124 := Tryd.isAgg47
  z124 := Tryd.sizeOf47
  v124 := Tryd.zeroValue47 }
open Go.RowKit in
theorem Tryd.strings_IndexAny_long (s chars : ByteArray) (w : World) (h2 : 2 ≤ chars.size) (h8 : 8 < s.size) (hs : s.size < 4294967281) (hcs : chars.size < 4294967281) (hascii : ∀ (j : Nat) b, chars.data.toList[j]? = some b → b.toNat < 128) :
    Calls Tryd.prog 25 #[.string s, .string chars] w fun e w' => e = .returned (.int .i64 (Lib.indexAny s.data.toList chars.data.toList)) ∧ w' = ((w.alloc (.cells (Lib.setCells chars.data.toList) 41)).alloc (.cells (Lib.setCells chars.data.toList) 41)) :=
  Any.strings_IndexAny_long Tryd.lays153 (zero_of_info (P := Tryd.prog) (t := 41) (n := 256) (by kernel_rfl)).1 (by kernel_rfl) s chars w h2 h8 hs hcs hascii
end Go.Proofs
