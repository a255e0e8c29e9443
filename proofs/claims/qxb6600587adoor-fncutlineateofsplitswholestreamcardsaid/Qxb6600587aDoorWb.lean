import Derived.Test.Qxb6600587aDoorWa
import Derived.Lib.AsciiSet
import Derived.Lib.IndexBytes
import Derived.Deep.WholeRow
import Derived.Deep.LoopGhost
namespace Go.Proofs.Qxb6600587aDoor
open Go.RowKit
set_option linter.unusedVariables false

/-- What the two walks over '[256]bool' ask of the program: kept apart from the loaded program, so that the walk does not open the whole array cell by cell. -/
structure SetEnv (P : Program) : Prop where
  mixed : P.follows .mixedOrders = true
  f15 : P.funcs[15]? = some Tryd.f15
  f18 : P.funcs[18]? = some Tryd.f18
  f19 : P.funcs[19]? = some Tryd.f19
  f20 : P.funcs[20]? = some Tryd.f20
  t3 : P.underlying 3 = some (.int .i64)
  a3 : ∀ w, (isAgg 3).run P w = .ok false w
  z3 : ∀ w, (Go.sizeOf 3).run P w = .ok 1 w
  v3 : ∀ w, (zeroValue 3).run P w = .ok (Value.int IntKind.i64 0) w
  t4 : P.underlying 4 = some .bool
  a4 : ∀ w, (isAgg 4).run P w = .ok false w
  z4 : ∀ w, (Go.sizeOf 4).run P w = .ok 1 w
  v4 : ∀ w, (zeroValue 4).run P w = .ok (Value.bool false) w
  t5 : P.underlying 5 = some (.int .u8)
  a5 : ∀ w, (isAgg 5).run P w = .ok false w
  z5 : ∀ w, (Go.sizeOf 5).run P w = .ok 1 w
  v5 : ∀ w, (zeroValue 5).run P w = .ok (Value.int IntKind.u8 0) w
  t9 : P.underlying 9 = some .string
  a9 : ∀ w, (isAgg 9).run P w = .ok false w
  z9 : ∀ w, (Go.sizeOf 9).run P w = .ok 1 w
  v9 : ∀ w, (zeroValue 9).run P w = .ok (Value.string { data := #[] }) w
  t21 : P.underlying 21 = some (.int .i32)
  a21 : ∀ w, (isAgg 21).run P w = .ok false w
  z21 : ∀ w, (Go.sizeOf 21).run P w = .ok 1 w
  v21 : ∀ w, (zeroValue 21).run P w = .ok (Value.int IntKind.i32 0) w
  t22 : P.underlying 22 = some (.slice 5)
  a22 : ∀ w, (isAgg 22).run P w = .ok false w
  z22 : ∀ w, (Go.sizeOf 22).run P w = .ok 1 w
  t38 : P.underlying 38 = some (TypeDesc.array 256 4)
  a38 : ∀ w, (isAgg 38).run P w = .ok true w
  z38 : ∀ w, (Go.sizeOf 38).run P w = .ok 256 w
  v38 : ∀ w, (zeroValue 38).run P w = .ok (.agg (Array.replicate 256 (.bool false))) w
  i38 : (P.info? 38).map (·.size) = some 256

set_option maxHeartbeats 4000000 in
set_option maxRecDepth 1000000 in
theorem mkset {P : Program} (L : SetEnv P) (chars : ByteArray) (w : World) (hs : chars.size < 4294967281)
    (hascii : ∀ (j : Nat) b, chars.data.toList[j]? = some b → b.toNat < 128) :
    Calls P 19 #[.string chars] w fun e w' => e = .returned (.tuple #[.agg (Lib.setCells chars.data.toList), .bool true]) ∧ w' = w.alloc (.cells (Lib.setCells chars.data.toList) 38) := by
  have HA : Hid (∀ (j : Nat) b, chars.data.toList[j]? = some b → b.toNat < 128) := hascii
  clear hascii
  have t3 := L.t3; have a3 := L.a3; have z3 := L.z3; have v3 := L.v3
  have t4 := L.t4; have a4 := L.a4; have z4 := L.z4; have v4 := L.v4
  have t5 := L.t5; have a5 := L.a5; have z5 := L.z5; have v5 := L.v5
  have t9 := L.t9; have a9 := L.a9; have z9 := L.z9; have v9 := L.v9
  have t38 := L.t38
  have hv38 := L.v38
  go_enter L.f19, Tryd.ntmps19
  go_wp2
  rw [← Lib.setCells_nil]
  go_loopg [4] chars.size (fun g s4 wx => ∃ i : Nat, i + g = chars.size ∧ s4 = .int .i64 i ∧ wx = w.alloc (.cells (Lib.setCells (chars.data.toList.take i)) 38))
  case atStart => exact ⟨0, by omega, rfl, rfl⟩
  case round =>
    obtain ⟨i, hig, rfl, rfl⟩ := hrel
    cases gk with
    | zero =>
      obtain rfl : i = chars.size := by omega
      have hiz : ¬ ((chars.size : Int) < (chars.size : Int)) := by omega
      rw [show chars.data.toList.take chars.size = chars.data.toList from List.take_of_length_le (by rw [← Lib.size_eq]; exact Nat.le_refl _)]
      have hld := run_loadVar_new (P := P) w 38 (Lib.setCells chars.data.toList) 256 4 L.t38 (by rw [Lib.setCells_size]; exact L.i38)
      have hsz := Lib.setCells_size chars.data.toList
      have hlc := run_loadCellsFrom_new (P := P) w 38 (Lib.setCells chars.data.toList) 256 hsz
      have hsc := run_storeCells_new (P := P) w 38 (Lib.setCells chars.data.toList) (Lib.setCells chars.data.toList) (by rw [hsz]; exact L.i38) rfl (Lib.setCells_one _)
      go_wp2
      simp only [L.a38, L.z38, Result.andThen, ↓reduceIte, hlc]
      rw [Oper.upon_value]
      go_wp2
      simp only [L.z38, Result.andThen, ↓reduceIte, hsc]
      rw [Oper.upon_skip]
      go_wp2
      (try simp only [Exit.inBlock, Exit.then])
      refine bodyPost_ret (v := .tuple #[.agg (Lib.setCells chars.data.toList), .bool true]) ?_ rfl ⟨rfl, rfl⟩
      rw [results_cell_tmp rfl]
      simp [asAddr, Result.andThen, hld]
    | succ g =>
      have hi : i < chars.size := by omega
      have hiz : (i : Int) < (chars.size : Int) := by omega
      obtain ⟨x, hx⟩ : ∃ x : UInt8, chars[i]'hi = x := ⟨_, rfl⟩
      have hxl : chars.data.toList[i]? = some x := by rw [← hx]; exact Lib.data_getElem? chars i hi
      have hx128 : ¬ ((128 : Int) ≤ (x.toNat : Int)) := by have := HA.out i x hxl; omega
      have hx256 : (x.toNat : Int) < 256 := by have := HA.out i x hxl; omega
      have hcell := Lib.setCells_at (chars.data.toList.take i) x
      have Hx : Hid (chars.data.toList[i]? = some x) := hxl
      clear hxl
      go_wp2
      go_roundg g
      case measure => omega
      case rel => exact ⟨i + 1, by omega, by first | rfl | simp, by rw [List.take_add_one, Hx.out]; simp only [Option.toList]; rw [Lib.setCells_snoc]⟩

set_option maxHeartbeats 2000000 in
set_option maxRecDepth 1000000 in
theorem setHas {P : Program} (L : SetEnv P) (b : Nat) (x : UInt8) (v : Bool) (w : World) (hc : w.cell? ⟨b, x.toNat, none⟩ = some (.bool v)) :
    Calls P 20 #[.pointer (some ⟨b, 0, none⟩), .int .u8 x.toNat] w fun e w' => e = .returned (.bool v) ∧ w' = w := by
  have hx256 : (x.toNat : Int) < 256 := by have := UInt8.toNat_lt x; omega
  have t4 := L.t4; have a4 := L.a4; have z4 := L.z4; have v4 := L.v4
  have t5 := L.t5; have a5 := L.a5; have z5 := L.z5; have v5 := L.v5
  have t38 := L.t38
  go_enter L.f20, Tryd.ntmps20
  go_wp2
  go_ret
  exact ⟨rfl, rfl⟩

theorem setEnv : SetEnv Tryd.prog := {
  mixed := by kernel_rfl
  f15 := Tryd.func15
  f18 := Tryd.func18
  f19 := Tryd.func19
  f20 := Tryd.func20
  t3 := Tryd.underlying3
  a3 := Tryd.isAgg3
  z3 := Tryd.sizeOf3
  v3 := Tryd.zeroValue3
  t4 := Tryd.underlying4
  a4 := Tryd.isAgg4
  z4 := Tryd.sizeOf4
  v4 := Tryd.zeroValue4
  t5 := Tryd.underlying5
  a5 := Tryd.isAgg5
  z5 := Tryd.sizeOf5
  v5 := Tryd.zeroValue5
  t9 := Tryd.underlying9
  a9 := Tryd.isAgg9
  z9 := Tryd.sizeOf9
  v9 := Tryd.zeroValue9
  t21 := Tryd.underlying21
  a21 := Tryd.isAgg21
  z21 := Tryd.sizeOf21
  v21 := Tryd.zeroValue21
  t22 := Tryd.underlying22
  a22 := Tryd.isAgg22
  z22 := Tryd.sizeOf22
  t38 := Tryd.underlying38
  a38 := Tryd.isAgg38
  z38 := Tryd.sizeOf38
  v38 := fun w => by kernel_rfl
  i38 := by kernel_rfl }
end Go.Proofs.Qxb6600587aDoor
