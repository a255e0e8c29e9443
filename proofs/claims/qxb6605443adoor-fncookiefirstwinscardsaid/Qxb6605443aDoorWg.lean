import Derived.Test.Qxb6605443aDoorChecked
import Derived.WalkKit
import Derived.WalkSpells
import Derived.WalkLawsBesides
import Derived.Deep.LoopGhost
namespace Go.Proofs.Qxb6605443aDoor
open Go.RowKit
set_option linter.unusedVariables false
set_option linter.unusedSimpArgs false

set_option maxHeartbeats 400000 in
set_option maxRecDepth 100000 in
theorem fold_99 (w : World) (hc : w.cell? ⟨0, 99, none⟩ = some (.int .u16 67)) :
    Calls Tryd.prog 24 #[.int .i32 99] w fun e w' => e = .returned (.int .i32 67) ∧ w' = w := by
  go_enter Tryd.func24, Tryd.ntmps24
  go_wp2
  go_ret
  exact ⟨rfl, rfl⟩
set_option maxHeartbeats 400000 in
set_option maxRecDepth 100000 in
theorem fold_111 (w : World) (hc : w.cell? ⟨0, 111, none⟩ = some (.int .u16 79)) :
    Calls Tryd.prog 24 #[.int .i32 111] w fun e w' => e = .returned (.int .i32 79) ∧ w' = w := by
  go_enter Tryd.func24, Tryd.ntmps24
  go_wp2
  go_ret
  exact ⟨rfl, rfl⟩
set_option maxHeartbeats 400000 in
set_option maxRecDepth 100000 in
theorem fold_107 (w : World) (hc : w.cell? ⟨0, 107, none⟩ = some (.int .u16 8490)) :
    Calls Tryd.prog 24 #[.int .i32 107] w fun e w' => e = .returned (.int .i32 8490) ∧ w' = w := by
  go_enter Tryd.func24, Tryd.ntmps24
  go_wp2
  go_ret
  exact ⟨rfl, rfl⟩
set_option maxHeartbeats 400000 in
set_option maxRecDepth 100000 in
theorem fold_105 (w : World) (hc : w.cell? ⟨0, 105, none⟩ = some (.int .u16 73)) :
    Calls Tryd.prog 24 #[.int .i32 105] w fun e w' => e = .returned (.int .i32 73) ∧ w' = w := by
  go_enter Tryd.func24, Tryd.ntmps24
  go_wp2
  go_ret
  exact ⟨rfl, rfl⟩
set_option maxHeartbeats 400000 in
set_option maxRecDepth 100000 in
theorem fold_101 (w : World) (hc : w.cell? ⟨0, 101, none⟩ = some (.int .u16 69)) :
    Calls Tryd.prog 24 #[.int .i32 101] w fun e w' => e = .returned (.int .i32 69) ∧ w' = w := by
  go_enter Tryd.func24, Tryd.ntmps24
  go_wp2
  go_ret
  exact ⟨rfl, rfl⟩
set_option maxHeartbeats 400000 in
set_option maxRecDepth 100000 in
theorem fold_67 (w : World) (hc : w.cell? ⟨0, 67, none⟩ = some (.int .u16 99)) :
    Calls Tryd.prog 24 #[.int .i32 67] w fun e w' => e = .returned (.int .i32 99) ∧ w' = w := by
  go_enter Tryd.func24, Tryd.ntmps24
  go_wp2
  go_ret
  exact ⟨rfl, rfl⟩
set_option maxHeartbeats 400000 in
set_option maxRecDepth 100000 in
theorem fold_79 (w : World) (hc : w.cell? ⟨0, 79, none⟩ = some (.int .u16 111)) :
    Calls Tryd.prog 24 #[.int .i32 79] w fun e w' => e = .returned (.int .i32 111) ∧ w' = w := by
  go_enter Tryd.func24, Tryd.ntmps24
  go_wp2
  go_ret
  exact ⟨rfl, rfl⟩
set_option maxHeartbeats 400000 in
set_option maxRecDepth 100000 in
theorem fold_75 (w : World) (hc : w.cell? ⟨0, 75, none⟩ = some (.int .u16 107)) :
    Calls Tryd.prog 24 #[.int .i32 75] w fun e w' => e = .returned (.int .i32 107) ∧ w' = w := by
  go_enter Tryd.func24, Tryd.ntmps24
  go_wp2
  go_ret
  exact ⟨rfl, rfl⟩
set_option maxHeartbeats 400000 in
set_option maxRecDepth 100000 in
theorem fold_73 (w : World) (hc : w.cell? ⟨0, 73, none⟩ = some (.int .u16 105)) :
    Calls Tryd.prog 24 #[.int .i32 73] w fun e w' => e = .returned (.int .i32 105) ∧ w' = w := by
  go_enter Tryd.func24, Tryd.ntmps24
  go_wp2
  go_ret
  exact ⟨rfl, rfl⟩
set_option maxHeartbeats 400000 in
set_option maxRecDepth 100000 in
theorem fold_69 (w : World) (hc : w.cell? ⟨0, 69, none⟩ = some (.int .u16 101)) :
    Calls Tryd.prog 24 #[.int .i32 69] w fun e w' => e = .returned (.int .i32 101) ∧ w' = w := by
  go_enter Tryd.func24, Tryd.ntmps24
  go_wp2
  go_ret
  exact ⟨rfl, rfl⟩

/-- the search's two ends, so many rounds before its end. -/
def ends : Nat → Nat × Nat
  | 7 => (0, 94) | 6 => (48, 94) | 5 => (72, 94) | 4 => (84, 94) | 3 => (84, 89) | 2 => (87, 89) | 1 => (87, 88) | _ => (88, 88)

set_option maxHeartbeats 1000000 in
set_option maxRecDepth 100000 in
theorem fold_kelvin (B o cap : Nat) (w : World) (hs : w.cell? ⟨1, 0, none⟩ = some (.slice (some ⟨B, o, none⟩) 94 cap))
    (c47 : w.cell? ⟨B, o + 94, none⟩ = some (.int .u16 966)) (c71 : w.cell? ⟨B, o + 142, none⟩ = some (.int .u16 7296)) (c83 : w.cell? ⟨B, o + 166, none⟩ = some (.int .u16 7838))
    (c89 : w.cell? ⟨B, o + 178, none⟩ = some (.int .u16 8491)) (c86 : w.cell? ⟨B, o + 172, none⟩ = some (.int .u16 8163)) (c88 : w.cell? ⟨B, o + 176, none⟩ = some (.int .u16 8490))
    (c87 : w.cell? ⟨B, o + 174, none⟩ = some (.int .u16 8486)) (d88 : w.cell? ⟨B, o + 177, none⟩ = some (.int .u16 75)) :
    Calls Tryd.prog 24 #[.int .i32 8490] w fun e w' => e = .returned (.int .i32 75) ∧ w' = w := by
  go_enter Tryd.func24, Tryd.ntmps24
  go_wp2
  go_loopg [3, 4] 7 (fun g s3 s4 wx => g ≤ 7 ∧ s3 = .int .i64 ((ends g).1 : Int) ∧ s4 = .int .i64 ((ends g).2 : Int) ∧ wx = w)
  case atStart => exact ⟨Nat.le_refl _, rfl, rfl, rfl⟩
  case round =>
    obtain ⟨hg, rfl, rfl, rfl⟩ := hrel
    match gk, hg with
    | 0, _ =>
      simp only [ends]
      go_wp2
      go_ret
      exact ⟨rfl, rfl⟩
    | 1, _ =>
      simp only [ends]
      go_wp2
      go_roundg 0
      case measure => omega
      case rel => exact ⟨by omega, rfl, rfl, rfl⟩
    | 2, _ =>
      simp only [ends]
      go_wp2
      go_roundg 1
      case measure => omega
      case rel => exact ⟨by omega, rfl, rfl, rfl⟩
    | 3, _ =>
      simp only [ends]
      go_wp2
      go_roundg 2
      case measure => omega
      case rel => exact ⟨by omega, rfl, rfl, rfl⟩
    | 4, _ =>
      simp only [ends]
      go_wp2
      go_roundg 3
      case measure => omega
      case rel => exact ⟨by omega, rfl, rfl, rfl⟩
    | 5, _ =>
      simp only [ends]
      go_wp2
      go_roundg 4
      case measure => omega
      case rel => exact ⟨by omega, rfl, rfl, rfl⟩
    | 6, _ =>
      simp only [ends]
      go_wp2
      go_roundg 5
      case measure => omega
      case rel => exact ⟨by omega, rfl, rfl, rfl⟩
    | 7, _ =>
      simp only [ends]
      go_wp2
      go_roundg 6
      case measure => omega
      case rel => exact ⟨by omega, rfl, rfl, rfl⟩
    | n + 8, hg => omega
end Go.Proofs.Qxb6605443aDoor
