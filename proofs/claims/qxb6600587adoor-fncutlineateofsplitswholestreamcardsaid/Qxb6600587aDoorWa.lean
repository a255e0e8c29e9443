import Derived.Test.Qxb6600587aDoorChecked
import Derived.WalkKit
import Derived.WalkSpells
import Derived.WalkLawsBesides
namespace Go.Proofs.Qxb6600587aDoor
open Go.RowKit
set_option linter.unusedVariables false

theorem info5 : (Tryd.prog.info? 5).map (fun i => (i.zero, i.size, i.bytes)) = some (some (.int .u8 0), 1, 1) := by kernel_rfl

set_option maxHeartbeats 400000 in
theorem bytes6_yes (a : Option Addr) (n c : Nat) (b : Bool) (w : World) (h : n ≤ 1048576) :
    Calls Tryd.prog 6 #[.slice a n c, .bool b] w fun e w' => e = .returned (.bool true) ∧ w' = w := by
  have h' : ¬ (1048576 : Int) < (n : Int) := by omega
  go_enter Tryd.func6, Tryd.ntmps6
  go_wp2
  go_ret
  exact ⟨rfl, rfl⟩

set_option maxHeartbeats 400000 in
theorem bytes6_no (a : Option Addr) (n c : Nat) (b : Bool) (w : World) (h : 1048576 < n) :
    Calls Tryd.prog 6 #[.slice a n c, .bool b] w fun e w' => e = .returned (.bool false) ∧ w' = w := by
  have h' : (1048576 : Int) < (n : Int) := by omega
  go_enter Tryd.func6, Tryd.ntmps6
  go_wp2
  go_ret
  exact ⟨rfl, rfl⟩

theorem eqnil (w : World) (a : Option Addr) (n c : Nat) : (binOp .eql 22 (.slice a n c) (.slice none 0 0)).run Tryd.prog w = .ok (.bool a.isNone) w :=
  Lib.run_eql_slice_nil (P := Tryd.prog) w 22 5 a n c 0 0 Tryd.underlying22

set_option maxHeartbeats 400000 in
theorem clone_nil (w : World) :
    Calls Tryd.prog 7 #[.slice none 0 0] w fun e w' => e = .returned (.slice none 0 0) ∧ w' = w := by
  have hq := eqnil
  go_enter Tryd.func7, Tryd.ntmps7
  go_wp2
  go_ret
  exact ⟨rfl, rfl⟩

/-- a byte as a cell holds it. -/
def bv (y : UInt8) : Value := .int .u8 (y.toNat : Int)
/-- the row after k stores. -/
def rowAt (l : List UInt8) (k : Nat) : List Value := (l.take k).map bv ++ List.replicate (l.length - k) (.int .u8 0)
theorem rowAt_zero (l : List UInt8) : rowAt l 0 = List.replicate l.length (.int .u8 0) := by simp [rowAt]
theorem rowAt_all (l : List UInt8) : rowAt l l.length = l.map bv := by simp [rowAt]
theorem rowAt_succ (l : List UInt8) (k : Nat) (y : UInt8) (h : l[k]? = some y) : (rowAt l k).set k (.int .u8 (y.toNat : Int)) = rowAt l (k + 1) := by
  obtain ⟨hk, hy⟩ := List.getElem?_eq_some_iff.1 h
  unfold rowAt
  have e : l.length - k = (l.length - (k + 1)) + 1 := by omega
  rw [e, List.replicate_succ, List.set_append]
  simp only [List.length_map, List.length_take]
  rw [if_neg (by omega), show k - min k l.length = 0 by omega, List.set_cons_zero, List.take_succ_eq_append_getElem hk, List.map_append, hy]
  simp [bv]

set_option maxHeartbeats 400000 in
theorem clone_some (b off n c : Nat) (l : List UInt8) (w : World) (hn : n ≤ 65536) (hl : n = l.length) (hx : b < w.heap.size)
    (hc : ∀ i y, l[i]? = some y → w.cell? ⟨b, off + i, none⟩ = some (.int .u8 (y.toNat : Int))) :
    Calls Tryd.prog 7 #[.slice (some ⟨b, off, none⟩) n c] w fun e w' => e = .returned (.slice (some ⟨w.heap.size, 0, none⟩) n n) ∧
      w'.ownsRow w.heap.size 5 1 (.slice (some ⟨w.heap.size, 0, none⟩) n n) n (l.map bv) ∧ Below w.heap.size w w' := by
  obtain ⟨i0, hi, hz0, hz1, hz2⟩ := info_parts info5
  have hq := eqnil
  have HC : Hid (∀ i y, l[i]? = some y → w.cell? ⟨b, off + i, none⟩ = some (.int .u8 (y.toNat : Int))) := hc
  have HL : Hid (n = l.length) := hl
  clear hc hl
  go_enter Tryd.func7, Tryd.ntmps7
  go_wp2_with (at_make; refine wpList_make_full _ rfl _ _ 22 rfl w.heap.size 5 i0 (.int .u8 0) 1 Tryd.underlying22 hi hz0 hz1 .i64 .i64 n n n rfl rfl rfl rfl (by rw [hz2]; omega) (by unfold maxLen; omega) (Nat.le_refl _) ?_; intro w1 hown hgrow)
  have hb1 : Below w.heap.size w w1 := (Below.refl _ w).grown hgrow (Nat.le_refl _) (fun _ h => by cases h)
  go_loopw [4] (fun i wr => ∃ k : Nat, k ≤ n ∧ i = .int .i64 k ∧ wr.ownsRow w.heap.size 5 1 (.slice (some ⟨w.heap.size, 0, none⟩) n n) n (rowAt l k) ∧ Below w.heap.size w wr) (fun i _ => n - (intOf i).toNat)
  case atStart =>
    refine ⟨0, Nat.zero_le _, rfl, ?_, hb1⟩
    rw [rowAt_zero, ← HL.out]
    have : (madeCells (Value.int .u8 0).cells (n * 1)).toList = List.replicate n (.int .u8 0) := by rw [Nat.mul_one]; exact toList_madeCells_one _ _
    rw [← this]; exact hown
  case round =>
    clear hown hgrow hb1
    obtain ⟨k, hk, rfl, hown, hb⟩ := hrel
    by_cases hlt : k < n
    · have hkl : k < l.length := by rw [← HL.out]; exact hlt
      obtain ⟨y, hy⟩ : ∃ y, l[k]? = some y := ⟨_, List.getElem?_eq_getElem hkl⟩
      have hcell : wr.cell? ⟨b, off + k, none⟩ = some (.int .u8 (y.toNat : Int)) := (hb.cell (p := ⟨b, off + k, none⟩) hx).trans (HC.out k y hy)
      have hfr := hown.frozenAt k
      have hold : wr.cell? ⟨w.heap.size, k, none⟩ = some (.int .u8 0) := by
        rw [hown.cellAt k (by omega)]
        unfold rowAt
        rw [List.getElem?_append_right (by simp; omega)]
        simp [List.getElem?_replicate]; omega
      have hst := hown.stored k (.int .u8 (y.toNat : Int))
      rw [rowAt_succ l k y hy] at hst
      have R1 : Hid (World.ownsRow (wr.setCell ⟨w.heap.size, k, none⟩ (.int .u8 (y.toNat : Int))) w.heap.size 5 1 (.slice (some ⟨w.heap.size, 0, none⟩) n n) n (rowAt l (k + 1))) := hst.1
      have R2 : Hid (Below w.heap.size w (wr.setCell ⟨w.heap.size, k, none⟩ (.int .u8 (y.toNat : Int)))) := hb.setCell (Nat.le_refl _) _
      clear hst hown hb hy
      go_wp2
      go_roundw
      case rel => exact ⟨k + 1, by omega, by go_num, R1.out, R2.out⟩
      case measure => simp [intOf]; omega
    · obtain rfl : k = n := by omega
      go_wp2
      go_ret
      exact ⟨rfl, by rw [← rowAt_all, ← HL.out]; exact hown, hb⟩
end Go.Proofs.Qxb6600587aDoor
