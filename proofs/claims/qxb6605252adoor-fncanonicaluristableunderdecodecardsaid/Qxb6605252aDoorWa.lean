import Derived.Test.Qxb6605252aDoorChecked
import Derived.Test.Qxb6605252aDoorPlain
import Derived.WalkKit
import Derived.WalkSpells
import Derived.WalkLawsBesides
namespace Go.Proofs.Qxb6605252aDoor
open Go.RowKit
set_option linter.unusedVariables false

theorem Hid.mk' {p : Prop} (h : p) : Hid p := h

set_option maxHeartbeats 1000000 in
theorem unres_yes (n : Nat) (w : World) (h : UnR n) :
    Calls Tryd.prog 12 #[.int .u8 (n : Int)] w fun e w' => e = .returned (.bool true) ∧ w' = w := by
  rcases h with h | h | h | rfl | rfl | rfl | rfl
  · obtain ⟨h1, h2⟩ := h
    have g1 : (65 : Int) ≤ (n : Int) := by omega
    have g2 : (n : Int) ≤ 90 := by omega
    go_enter Tryd.func12, Tryd.ntmps12
    go_wp2
    go_ret
    exact ⟨rfl, rfl⟩
  · obtain ⟨h1, h2⟩ := h
    have g1 : (97 : Int) ≤ (n : Int) := by omega
    have g2 : (n : Int) ≤ 122 := by omega
    go_enter Tryd.func12, Tryd.ntmps12
    go_wp2
    go_ret
    exact ⟨rfl, rfl⟩
  · obtain ⟨h1, h2⟩ := h
    have g1 : (48 : Int) ≤ (n : Int) := by omega
    have g2 : (n : Int) ≤ 57 := by omega
    go_enter Tryd.func12, Tryd.ntmps12
    go_wp2
    go_ret
    exact ⟨rfl, rfl⟩
  all_goals
    go_enter Tryd.func12, Tryd.ntmps12
    go_wp2
    go_ret
    exact ⟨rfl, rfl⟩

set_option maxHeartbeats 2000000 in
theorem unres_no (n : Nat) (w : World) (h : ¬ UnR n) :
    Calls Tryd.prog 12 #[.int .u8 (n : Int)] w fun e w' => e = .returned (.bool false) ∧ w' = w := by
  have h' : (n < 65 ∨ 90 < n) ∧ (n < 97 ∨ 122 < n) ∧ (n < 48 ∨ 57 < n) ∧ n ≠ 45 ∧ n ≠ 46 ∧ n ≠ 95 ∧ n ≠ 126 := by unfold UnR at h; omega
  clear h
  obtain ⟨a1, a2, a3, a4, a5, a6, a7⟩ := h'
  have e4 : ((n : Int) == 45) = false := beq_eq_false_iff_ne.2 (by omega)
  have e5 : ((n : Int) == 46) = false := beq_eq_false_iff_ne.2 (by omega)
  have e6 : ((n : Int) == 95) = false := beq_eq_false_iff_ne.2 (by omega)
  have e7 : ((n : Int) == 126) = false := beq_eq_false_iff_ne.2 (by omega)
  clear a4 a5 a6 a7
  rcases (show (n : Int) < 48 ∨ (57 < (n : Int) ∧ (n : Int) < 65) ∨ (90 < (n : Int) ∧ (n : Int) < 97) ∨ 122 < (n : Int) by omega) with g | ⟨g, g'⟩ | ⟨g, g'⟩ | g
  all_goals
    clear a1 a2 a3
    go_enter Tryd.func12, Tryd.ntmps12
    go_wp2
    go_ret
    exact ⟨rfl, rfl⟩

set_option maxHeartbeats 1000000 in
theorem hex_low (n : Nat) (w : World) (h1 : 48 ≤ n) (h2 : n ≤ 57) :
    Calls Tryd.prog 13 #[.int .u8 (n : Int)] w fun e w' => e = .returned (.tuple #[.int .u8 ((n : Int) - 48), .bool true]) ∧ w' = w := by
  have g1 : (48 : Int) ≤ (n : Int) := by omega
  have g2 : (n : Int) ≤ 57 := by omega
  go_enter Tryd.func13, Tryd.ntmps13
  go_wp2
  go_ret2
  exact ⟨rfl, rfl⟩
set_option maxHeartbeats 1000000 in
theorem hex_high (n : Nat) (w : World) (h1 : 65 ≤ n) (h2 : n ≤ 70) :
    Calls Tryd.prog 13 #[.int .u8 (n : Int)] w fun e w' => e = .returned (.tuple #[.int .u8 ((n : Int) - 65 + 10), .bool true]) ∧ w' = w := by
  have g1 : (65 : Int) ≤ (n : Int) := by omega
  have g2 : (n : Int) ≤ 70 := by omega
  go_enter Tryd.func13, Tryd.ntmps13
  go_wp2
  go_ret2
  exact ⟨rfl, rfl⟩

set_option maxHeartbeats 400000 in
theorem bytes5_yes (s : ByteArray) (w : World) (h : s.size ≤ 1048576) :
    Calls Tryd.prog 5 #[.string s] w fun e w' => e = .returned (.bool true) ∧ w' = w := by
  have h' : ¬ (1048576 : Int) < (s.size : Int) := by omega
  go_enter Tryd.func5, Tryd.ntmps5
  go_wp2
  go_ret
  exact ⟨rfl, rfl⟩
set_option maxHeartbeats 400000 in
theorem bytes5_no (s : ByteArray) (w : World) (h : 1048576 < s.size) :
    Calls Tryd.prog 5 #[.string s] w fun e w' => e = .returned (.bool false) ∧ w' = w := by
  have h' : (1048576 : Int) < (s.size : Int) := by omega
  go_enter Tryd.func5, Tryd.ntmps5
  go_wp2
  go_ret
  exact ⟨rfl, rfl⟩
set_option maxHeartbeats 400000 in
theorem bytes9_yes (s : ByteArray) (w : World) (h : s.size ≤ 1048576) :
    Calls Tryd.prog 9 #[.string s] w fun e w' => e = .returned (.bool true) ∧ w' = w := by
  have h' : ¬ (1048576 : Int) < (s.size : Int) := by omega
  go_enter Tryd.func9, Tryd.ntmps9
  go_wp2
  go_ret
  exact ⟨rfl, rfl⟩
set_option maxHeartbeats 400000 in
theorem bytes9_no (s : ByteArray) (w : World) (h : 1048576 < s.size) :
    Calls Tryd.prog 9 #[.string s] w fun e w' => e = .returned (.bool false) ∧ w' = w := by
  have h' : (1048576 : Int) < (s.size : Int) := by omega
  go_enter Tryd.func9, Tryd.ntmps9
  go_wp2
  go_ret
  exact ⟨rfl, rfl⟩
end Go.Proofs.Qxb6605252aDoor
