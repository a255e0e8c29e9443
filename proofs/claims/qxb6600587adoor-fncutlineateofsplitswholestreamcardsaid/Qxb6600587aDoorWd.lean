import Derived.Test.Qxb6600587aDoorWc
namespace Go.Proofs.Qxb6600587aDoor
open Go.RowKit Go.Shelf
set_option linter.unusedVariables false

theorem call16 (s : ByteArray) (x : UInt8) (w : World) : (callFunc 16 #[.string s, .int .u8 (x.toNat : Int)]).run Tryd.prog w = .ok (.value (.int .i64 (firstIdx s x))) w := by
  rw [run_callFunc_indexByte Tryd.func16 (by kernel_rfl) (by kernel_rfl) (by kernel_rfl) (by kernel_rfl), run_indexByte_string]
  simp [Result.andThen]
theorem first_yes (x : UInt8) (h : isB x = true) : (0 : Int) ≤ firstIdx ⟨#[13, 10]⟩ x := by
  have := firstIdx_nonneg ⟨#[13, 10]⟩ x
  refine of_decide_eq_true (this.trans ?_)
  simp [isB] at h ⊢
  rcases h with rfl | rfl <;> simp
theorem first_no (x : UInt8) (h : isB x = false) : ¬ (0 : Int) ≤ firstIdx ⟨#[13, 10]⟩ x := by
  have := firstIdx_nonneg ⟨#[13, 10]⟩ x
  refine of_decide_eq_false (this.trans ?_)
  simp [isB] at h ⊢
  exact ⟨fun e => h.1 e.symm, fun e => h.2 e.symm⟩
theorem isB_high (x : UInt8) (h : 128 ≤ x.toNat) : isB x = false := by
  simp only [isB, List.contains_cons, List.contains_nil, Bool.or_false, Bool.or_eq_false_iff, beq_eq_false_iff_ne]
  constructor
  · rintro rfl; simp at h
  · rintro rfl; simp at h

set_option maxHeartbeats 1000000 in
theorem indexAny_zero (a : Option Addr) (c : Nat) (w : World) :
    Calls Tryd.prog 15 #[.slice a 0 c, .string ⟨#[13, 10]⟩] w fun e w' => e = .returned (.int .i64 (-1)) ∧ w' = w := by
  go_enter Tryd.func15, Tryd.ntmps15
  go_wp2_with (go_at_call 18; refine (useSet setEnv _ _).mono ?_; rintro e w' ⟨rfl, rfl⟩)
  go_loop [12] (fun i => i = .int .i64 0) (fun _ => 0)
  case atStart => rfl
  case round =>
    subst hrel
    go_wp2
    go_ret
    exact ⟨rfl, rfl⟩

set_option maxHeartbeats 1000000 in
theorem indexAny_one_low (b off c : Nat) (x : UInt8) (w : World) (h : x.toNat < 128) (hc : w.cell? ⟨b, off, none⟩ = some (.int .u8 (x.toNat : Int))) :
    Calls Tryd.prog 15 #[.slice (some ⟨b, off, none⟩) 1 c, .string ⟨#[13, 10]⟩] w fun e w' => e = .returned (.int .i64 (idx [x])) ∧ w' = w := by
  have h1 : ¬ (128 : Int) ≤ (x.toNat : Int) := by omega
  have h16 := fun w => call16 ⟨#[13, 10]⟩ x w
  cases hx : isB x
  · have h2 := first_no x hx
    have e1 : Hid (idx [x] = -1) := idx_none (fun j y hj hy => by
      obtain rfl : j = 0 := by simpa using hj
      simp at hy; subst hy; exact hx)
    go_enter Tryd.func15, Tryd.ntmps15
    go_wp2
    go_ret
    exact ⟨ret_int e1.out.symm, rfl⟩
  · have h2 := first_yes x hx
    have e1 : Hid (idx [x] = 0) := idx_hit (NoB.zero _) (by simp) hx
    go_enter Tryd.func15, Tryd.ntmps15
    go_wp2
    go_ret
    exact ⟨ret_int e1.out.symm, rfl⟩

/-- the iterator over the constant, round by round. -/
theorem next0 (w : World) (ty : TypeId) : (Instr.next (.pointer (some ⟨w.heap.size, 0, none⟩)) true ty).run Tryd.prog (w.iter ⟨#[13, 10]⟩ 0) = .ok (.tuple #[.bool true, .int .i64 0, .int .i32 13]) (w.iter ⟨#[13, 10]⟩ 1) :=
  run_next_ascii (P := Tryd.prog) w ⟨#[13, 10]⟩ 0 ty (by decide) (by decide)
theorem next1 (w : World) (ty : TypeId) : (Instr.next (.pointer (some ⟨w.heap.size, 0, none⟩)) true ty).run Tryd.prog (w.iter ⟨#[13, 10]⟩ 1) = .ok (.tuple #[.bool true, .int .i64 1, .int .i32 10]) (w.iter ⟨#[13, 10]⟩ 2) :=
  run_next_ascii (P := Tryd.prog) w ⟨#[13, 10]⟩ 1 ty (by decide) (by decide)
theorem next2 (w : World) (ty : TypeId) : (Instr.next (.pointer (some ⟨w.heap.size, 0, none⟩)) true ty).run Tryd.prog (w.iter ⟨#[13, 10]⟩ 2) = .ok (.tuple #[.bool false]) (w.iter ⟨#[13, 10]⟩ 2) :=
  run_next_end (P := Tryd.prog) w ⟨#[13, 10]⟩ 2 ty (by decide)

set_option maxHeartbeats 1000000 in
theorem indexAny_one_high (b off c : Nat) (x : UInt8) (w : World) (h : 128 ≤ x.toNat) (hc : w.cell? ⟨b, off, none⟩ = some (.int .u8 (x.toNat : Int))) :
    Calls Tryd.prog 15 #[.slice (some ⟨b, off, none⟩) 1 c, .string ⟨#[13, 10]⟩] w fun e w' => e = .returned (.int .i64 (-1)) ∧ Below w.heap.size w w' := by
  have h1 : (128 : Int) ≤ (x.toNat : Int) := by omega
  have h256 : (x.toNat : Int) < 256 := by have := UInt8.toNat_lt x; omega
  have n0 := next0 w
  have n1 := next1 w
  have n2 := next2 w
  go_enter Tryd.func15, Tryd.ntmps15
  go_wp2
  go_loopg [5] 2 (fun g _ wx => ∃ i : Nat, i + g = 2 ∧ wx = w.iter ⟨#[13, 10]⟩ i)
  case atStart => exact ⟨0, by omega, rfl⟩
  case round =>
    obtain ⟨i, hig, rfl⟩ := hrel
    match gk, hig with
    | 0, hig =>
      obtain rfl : i = 2 := by omega
      go_wp2
      go_ret
      exact ⟨rfl, (Below.refl _ _).alloc (Nat.le_refl _) _⟩
    | 1, hig =>
      obtain rfl : i = 1 := by omega
      go_wp2
      go_roundg 0
      case measure => omega
      case rel => exact ⟨2, by omega, rfl⟩
    | 2, hig =>
      obtain rfl : i = 0 := by omega
      go_wp2
      go_roundg 1
      case measure => omega
      case rel => exact ⟨1, by omega, rfl⟩
    | g + 3, hig => omega
end Go.Proofs.Qxb6600587aDoor
