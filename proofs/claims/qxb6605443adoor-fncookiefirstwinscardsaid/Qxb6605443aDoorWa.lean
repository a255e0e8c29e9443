import Derived.Test.Qxb6605443aDoorChecked
import Derived.Test.Qxb6605443aDoorPlain
import Derived.Test.Qxb6605443aDoorSa
import Derived.WalkKit
import Derived.WalkSpells
import Derived.WalkLawsBesides
import Derived.Lib.Strings
namespace Go.Proofs.Qxb6605443aDoor
open Go.RowKit
set_option linter.unusedVariables false

theorem Hid.mk' {p : Prop} (h : p) : Hid p := h

set_option maxHeartbeats 1000000 in
theorem hex_yes (n : Nat) (w : World) (h : HexP n) :
    Calls Tryd.prog 11 #[.int .u8 (n : Int)] w fun e w' => e = .returned (.bool true) ∧ w' = w := by
  rcases h with h | h | h
  · obtain ⟨h1, h2⟩ := h
    have g1 : (48 : Int) ≤ (n : Int) := by omega
    have g2 : (n : Int) ≤ 57 := by omega
    go_enter Tryd.func11, Tryd.ntmps11
    go_wp2
    go_ret
    exact ⟨rfl, rfl⟩
  · obtain ⟨h1, h2⟩ := h
    have g1 : (65 : Int) ≤ (n : Int) := by omega
    have g2 : (n : Int) ≤ 70 := by omega
    go_enter Tryd.func11, Tryd.ntmps11
    go_wp2
    go_ret
    exact ⟨rfl, rfl⟩
  · obtain ⟨h1, h2⟩ := h
    have g1 : (97 : Int) ≤ (n : Int) := by omega
    have g2 : (n : Int) ≤ 102 := by omega
    go_enter Tryd.func11, Tryd.ntmps11
    go_wp2
    go_ret
    exact ⟨rfl, rfl⟩
set_option maxHeartbeats 1000000 in
theorem hex_no (n : Nat) (w : World) (h : ¬ HexP n) :
    Calls Tryd.prog 11 #[.int .u8 (n : Int)] w fun e w' => e = .returned (.bool false) ∧ w' = w := by
  rcases (show (n : Int) < 48 ∨ (57 < (n : Int) ∧ (n : Int) < 65) ∨ (70 < (n : Int) ∧ (n : Int) < 97) ∨ 102 < (n : Int) by unfold HexP at h; omega) with g | ⟨g, g'⟩ | ⟨g, g'⟩ | g
  · clear h
    go_enter Tryd.func11, Tryd.ntmps11
    go_wp2
    go_ret
    exact ⟨rfl, rfl⟩
  · clear h
    have d1 : decide ((n : Int) ≤ 57) = false := decide_eq_false (by omega)
    go_enter Tryd.func11, Tryd.ntmps11
    go_wp2
    go_ret
    exact ⟨rfl, rfl⟩
  · clear h
    have d1 : decide ((n : Int) ≤ 57) = false := decide_eq_false (by omega)
    have d2 : decide ((n : Int) ≤ 70) = false := decide_eq_false (by omega)
    go_enter Tryd.func11, Tryd.ntmps11
    go_wp2
    go_ret
    exact ⟨rfl, rfl⟩
  · clear h
    have d1 : decide ((n : Int) ≤ 57) = false := decide_eq_false (by omega)
    have d2 : decide ((n : Int) ≤ 70) = false := decide_eq_false (by omega)
    have d3 : decide ((n : Int) ≤ 102) = false := decide_eq_false (by omega)
    go_enter Tryd.func11, Tryd.ntmps11
    go_wp2
    go_ret
    exact ⟨rfl, rfl⟩
theorem hex_any (c : UInt8) (w : World) :
    Calls Tryd.prog 11 #[.int .u8 (c.toNat : Int)] w fun e w' => e = .returned (.bool (hexB c)) ∧ w' = w := by
  unfold hexB
  by_cases h : HexP c.toNat
  · rw [decide_eq_true h]; exact hex_yes _ w h
  · rw [decide_eq_false h]; exact hex_no _ w h

set_option maxHeartbeats 2000000 in
theorem reg_yes (n : Nat) (w : World) (h : RegP n) :
    Calls Tryd.prog 12 #[.int .u8 (n : Int)] w fun e w' => e = .returned (.bool true) ∧ w' = w := by
  rcases h with h | h | h | h | rfl | rfl | rfl | rfl | rfl | rfl
  · obtain ⟨h1, h2⟩ := h
    have g1 : (48 : Int) ≤ (n : Int) := by omega
    have g2 : (n : Int) ≤ 57 := by omega
    go_enter Tryd.func12, Tryd.ntmps12
    go_wp2
    go_ret
    exact ⟨rfl, rfl⟩
  · obtain ⟨h1, h2⟩ := h
    have g1 : (65 : Int) ≤ (n : Int) := by omega
    have g2 : (n : Int) ≤ 90 := by omega
    go_enter Tryd.func12, Tryd.ntmps12
    go_wp2
    go_ret
    exact ⟨rfl, rfl⟩
  · obtain ⟨h1, h2⟩ := h
    have g1 : (97 : Int) ≤ (n : Int) := by omega
    have g2 : (n : Int) ≤ 122 := by omega
    go_enter Tryd.func12, Tryd.ntmps12
    go_wp2
    go_ret
    exact ⟨rfl, rfl⟩
  · obtain ⟨h1, h2⟩ := h
    have g1 : (38 : Int) ≤ (n : Int) := by omega
    have g2 : (n : Int) ≤ 46 := by omega
    go_enter Tryd.func12, Tryd.ntmps12
    go_wp2
    go_ret
    exact ⟨rfl, rfl⟩
  all_goals
    go_enter Tryd.func12, Tryd.ntmps12
    go_wp2
    go_ret
    exact ⟨rfl, rfl⟩
set_option maxHeartbeats 2000000 in
theorem reg_no (n : Nat) (w : World) (h : ¬ RegP n) :
    Calls Tryd.prog 12 #[.int .u8 (n : Int)] w fun e w' => e = .returned (.bool false) ∧ w' = w := by
  have a1 : n ≠ 33 ∧ n ≠ 36 ∧ n ≠ 59 ∧ n ≠ 61 ∧ n ≠ 95 ∧ n ≠ 126 := by unfold RegP at h; omega
  obtain ⟨b1, b2, b3, b4, b5, b6⟩ := a1
  have e1 : ((n : Int) == 33) = false := beq_eq_false_iff_ne.2 (by omega)
  have e2 : ((n : Int) == 36) = false := beq_eq_false_iff_ne.2 (by omega)
  have e3 : ((n : Int) == 59) = false := beq_eq_false_iff_ne.2 (by omega)
  have e4 : ((n : Int) == 61) = false := beq_eq_false_iff_ne.2 (by omega)
  have e5 : ((n : Int) == 95) = false := beq_eq_false_iff_ne.2 (by omega)
  have e6 : ((n : Int) == 126) = false := beq_eq_false_iff_ne.2 (by omega)
  rcases (show (n : Int) < 38 ∨ (46 < (n : Int) ∧ (n : Int) < 48) ∨ (57 < (n : Int) ∧ (n : Int) < 65) ∨ (90 < (n : Int) ∧ (n : Int) < 97) ∨ 122 < (n : Int) by unfold RegP at h; omega) with g | ⟨g, g'⟩ | ⟨g, g'⟩ | ⟨g, g'⟩ | g
  all_goals
    clear h b1 b2 b3 b4 b5 b6
    go_enter Tryd.func12, Tryd.ntmps12
    go_wp2
    go_ret
    exact ⟨rfl, rfl⟩
theorem reg_any (c : UInt8) (w : World) :
    Calls Tryd.prog 12 #[.int .u8 (c.toNat : Int)] w fun e w' => e = .returned (.bool (regB c)) ∧ w' = w := by
  unfold regB
  by_cases h : RegP c.toNat
  · rw [decide_eq_true h]; exact reg_yes _ w h
  · rw [decide_eq_false h]; exact reg_no _ w h

theorem idx_any (c : UInt8) (w : World) :
    Calls Tryd.prog 22 #[.string ⟨regL.toArray⟩, .int .u8 (c.toNat : Int)] w fun e w' => (∃ k : Int, e = .returned (.int .i64 k) ∧ decide (k < 0) = !regB c) ∧ w' = w := by
  refine (Tryd.strings_IndexByte _ _ w).mono ?_
  rintro e w' ⟨rfl, rfl⟩
  refine ⟨⟨_, rfl, ?_⟩, rfl⟩
  have : ((c.toNat : Int)).toNat.toUInt8 = c := by simp
  rw [this]
  exact idx_reg c

theorem trim_any (t : ByteArray) (a b : UInt8) (w : World) (ht : t.data.toList = [a, b]) :
    Calls Tryd.prog 21 #[.string t, .string ⟨hexL.toArray⟩] w fun e w' => (∃ r : ByteArray, e = .returned (.string r) ∧ r.toList.isEmpty = (hexB a && hexB b)) ∧ Below w.heap.size w w' := by
  refine (Tryd.strings_Trim_set t _ w ?_ (by decide) ?_).mono ?_
  · rw [Lib.size_eq, ht]; simp
  · intro j x hx
    have := List.mem_of_getElem? hx
    revert this
    have hall : ∀ x ∈ hexL, x.toNat < 128 := by decide
    exact hall x
  · rintro e w' ⟨rfl, hb⟩
    refine ⟨⟨_, rfl, ?_⟩, hb⟩
    rw [ht, Lib.toList_data, Bool.eq_iff_iff, List.isEmpty_iff]
    exact trim_two a b

set_option maxHeartbeats 400000 in
theorem bytes10_yes (s : ByteArray) (w : World) (h : s.size ≤ 1048576) :
    Calls Tryd.prog 10 #[.string s] w fun e w' => e = .returned (.bool true) ∧ w' = w := by
  have h' : ¬ (1048576 : Int) < (s.size : Int) := by omega
  go_enter Tryd.func10, Tryd.ntmps10
  go_wp2
  go_ret
  exact ⟨rfl, rfl⟩
set_option maxHeartbeats 400000 in
theorem bytes10_no (s : ByteArray) (w : World) (h : 1048576 < s.size) :
    Calls Tryd.prog 10 #[.string s] w fun e w' => e = .returned (.bool false) ∧ w' = w := by
  have h' : (1048576 : Int) < (s.size : Int) := by omega
  go_enter Tryd.func10, Tryd.ntmps10
  go_wp2
  go_ret
  exact ⟨rfl, rfl⟩
set_option maxHeartbeats 400000 in
theorem bytes14_yes (s : ByteArray) (w : World) (h : s.size ≤ 1048576) :
    Calls Tryd.prog 14 #[.string s] w fun e w' => e = .returned (.bool true) ∧ w' = w := by
  have h' : ¬ (1048576 : Int) < (s.size : Int) := by omega
  go_enter Tryd.func14, Tryd.ntmps14
  go_wp2
  go_ret
  exact ⟨rfl, rfl⟩
set_option maxHeartbeats 400000 in
theorem bytes14_no (s : ByteArray) (w : World) (h : 1048576 < s.size) :
    Calls Tryd.prog 14 #[.string s] w fun e w' => e = .returned (.bool false) ∧ w' = w := by
  have h' : (1048576 : Int) < (s.size : Int) := by omega
  go_enter Tryd.func14, Tryd.ntmps14
  go_wp2
  go_ret
  exact ⟨rfl, rfl⟩
end Go.Proofs.Qxb6605443aDoor
