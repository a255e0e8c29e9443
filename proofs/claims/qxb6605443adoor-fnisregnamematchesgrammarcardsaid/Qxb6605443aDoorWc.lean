import Derived.Test.Qxb6605443aDoorWb
namespace Go.Proofs.Qxb6605443aDoor
open Go.RowKit
set_option linter.unusedVariables false
set_option linter.unusedSimpArgs false

set_option maxHeartbeats 400000 in
theorem law4_big (s : ByteArray) (w : World) (h : 1048576 < s.size) :
    Calls Tryd.prog 4 #[.string s] w fun e w' => e = .returned (.bool true) ∧ w' = w := by
  go_enter Tryd.func4, Tryd.ntmps4
  go_wp2_with (go_at_call 10; refine (bytes10_no _ _ h).mono ?_; rintro e w' ⟨rfl, rfl⟩)
  go_ret
  exact ⟨rfl, rfl⟩

set_option maxHeartbeats 2000000 in
set_option maxRecDepth 100000 in
theorem law4_small (s : ByteArray) (w : World) (hs : s.size ≤ 1048576) :
    Calls Tryd.prog 4 #[.string s] w fun e w' => e = .returned (.bool true) ∧ Below w.heap.size w w' := by
  have hs' : ¬ (1048576 : Int) < (s.size : Int) := by omega
  have hz := zz_reg s w (by omega)
  have hat : ∀ i (h : i < s.size), s.data.toList.drop i = s[i]'h :: s.data.toList.drop (i + 1) := fun i h => by
    have h1 := Lib.data_getElem? s i h
    obtain ⟨hi, hx⟩ := List.getElem?_eq_some_iff.1 h1
    rw [List.drop_eq_getElem_cons hi, hx]
  have hnil : ∀ i, s.size ≤ i → s.data.toList.drop i = [] := fun i h => by
    rw [List.drop_eq_nil_iff, ← Lib.size_eq]; exact h
  have HA := Hid.mk' hat
  have HN := Hid.mk' hnil
  have HZ := Hid.mk' hz
  clear hat hnil hz
  go_enter Tryd.func4, Tryd.ntmps4
  go_wp2_with (go_at_call 10; refine (bytes10_yes _ _ hs).mono ?_; rintro e w' ⟨rfl, hw⟩; rw [hw]; clear hw w')
  go_loop [3, 4] (fun s3 s4 => ∃ (k : Nat) (B : Bool), k ≤ s.size ∧ s3 = .bool B ∧ s4 = .int .i64 k ∧ (B && want (s.data.toList.drop k)) = want s.data.toList) (fun _ s4 => s.size - (intOf s4).toNat)
  case atStart => exact ⟨0, true, Nat.zero_le _, rfl, rfl, rfl⟩
  case round =>
    obtain ⟨k, B, hk, rfl, rfl, hw⟩ := hrel
    have HW := Hid.mk' hw
    clear hw
    by_cases hlt : k < s.size
    · have hlt' : (k : Int) < (s.size : Int) := by omega
      obtain ⟨c, hc⟩ : ∃ c : UInt8, s[k]'hlt = c := ⟨_, rfl⟩
      have hd := HA.out k hlt
      rw [hc] at hd
      have hgo : ∀ b, okB c (s.data.toList.drop (k + 1)) = b → ((B && b) && want (s.data.toList.drop (k + 1))) = want s.data.toList := fun b hb => by
        rw [← HW.out, hd, want, hb, Bool.and_assoc]
      have HG := Hid.mk' hgo
      clear hd hgo
      by_cases h37 : c = 37
      · have e37 : ((c.toNat : Int) == 37) = true := by rw [h37]; rfl
        by_cases h2 : k + 2 < s.size
        · have h2' : ¬ (s.size : Int) - (k : Int) < 3 := by omega
          have hd1 := HA.out (k + 1) (by omega)
          have hd2 := HA.out (k + 2) h2
          have q1 : (k : Int) + 1 < (s.size : Int) := by omega
          have q2 : (k : Int) + 2 < (s.size : Int) := by omega
          have q1' : k + 1 < s.size := by omega
          obtain ⟨a, ha⟩ : ∃ a : UInt8, s[k + 1]'q1' = a := ⟨_, rfl⟩
          obtain ⟨b, hb⟩ : ∃ b : UInt8, s[k + 2]'h2 = b := ⟨_, rfl⟩
          rw [ha] at hd1
          rw [hb] at hd2
          have ho : okB c (s.data.toList.drop (k + 1)) = (hexB a && hexB b) := by
            rw [okB, if_pos h37, hd1, hd2]; rfl
          have HG2 := Hid.mk' (HG.out _ ho)
          clear ho hd1 hd2 h37
          cases va : hexB a
          · rw [va] at HG2
            go_wp2_with (go_at_call 11; refine (hex_any a _).mono ?_; rintro e w1 ⟨rfl, hw1⟩; rw [hw1, va]; clear hw1 w1)
            go_round
            case rel => exact ⟨k + 1, false, by omega, rfl, by go_num, by have := HG2.out; simpa using this⟩
            case measure => simp [intOf]; omega
          · cases vb : hexB b
            · rw [va, vb] at HG2
              go_wp2_with (go_at_call 11; refine (hex_any _ _).mono ?_; rintro e w1 ⟨rfl, hw1⟩; rw [hw1]; clear hw1 w1; first | rw [va] | rw [vb])
              go_round
              case rel => exact ⟨k + 1, false, by omega, rfl, by go_num, by have := HG2.out; simpa using this⟩
              case measure => simp [intOf]; omega
            · rw [va, vb] at HG2
              go_wp2_with (go_at_call 11; refine (hex_any _ _).mono ?_; rintro e w1 ⟨rfl, hw1⟩; rw [hw1]; clear hw1 w1; first | rw [va] | rw [vb])
              go_round
              case rel => exact ⟨k + 1, B, by omega, rfl, by go_num, by have := HG2.out; simpa using this⟩
              case measure => simp [intOf]; omega
        · have h2' : (s.size : Int) - (k : Int) < 3 := by omega
          have ho : okB c (s.data.toList.drop (k + 1)) = false := by
            rw [okB, if_pos h37]
            by_cases h1 : k + 1 < s.size
            · rw [HA.out (k + 1) h1, HN.out (k + 1 + 1) (by omega)]; rfl
            · rw [HN.out (k + 1) (by omega)]; rfl
          have HG2 := Hid.mk' (HG.out _ ho)
          clear ho h37
          go_wp2
          go_round
          case rel => exact ⟨k + 1, false, by omega, rfl, by go_num, by have := HG2.out; simpa using this⟩
          case measure => simp [intOf]; omega
      · have e37 := ne37 h37
        have ho : okB c (s.data.toList.drop (k + 1)) = regB c := by rw [okB, if_neg h37]
        have HG2 := Hid.mk' (HG.out _ ho)
        clear ho h37
        cases vr : regB c
        · rw [vr] at HG2
          go_wp2_with (go_at_call 12; refine (reg_any c _).mono ?_; rintro e w1 ⟨rfl, hw1⟩; rw [hw1, vr]; clear hw1 w1)
          go_round
          case rel => exact ⟨k + 1, false, by omega, rfl, by go_num, by have := HG2.out; simpa using this⟩
          case measure => simp [intOf]; omega
        · rw [vr] at HG2
          go_wp2_with (go_at_call 12; refine (reg_any c _).mono ?_; rintro e w1 ⟨rfl, hw1⟩; rw [hw1, vr]; clear hw1 w1)
          go_round
          case rel => exact ⟨k + 1, B, by omega, rfl, by go_num, by have := HG2.out; simpa using this⟩
          case measure => simp [intOf]; omega
    · have hlt' : ¬ (k : Int) < (s.size : Int) := by omega
      have hw3 : B = want s.data.toList := by rw [← HW.out, HN.out k (by omega)]; simp [want]
      generalize want s.data.toList = V at HZ hw3
      subst hw3
      go_wp2_with (go_at_call 13; refine HZ.out.mono ?_; rintro e w1 ⟨rfl, hb1⟩)
      go_ret
      exact ⟨by simp, hb1⟩

theorem law4_any (s : ByteArray) (w : World) :
    Calls Tryd.prog 4 #[.string s] w fun e w' => e = .returned (.bool true) ∧ Below w.heap.size w w' := by
  by_cases h : 1048576 < s.size
  · exact (law4_big s w h).mono fun e w' ⟨h1, h2⟩ => ⟨h1, h2 ▸ Below.refl _ _⟩
  · exact law4_small s w (by omega)
end Go.Proofs.Qxb6605443aDoor
