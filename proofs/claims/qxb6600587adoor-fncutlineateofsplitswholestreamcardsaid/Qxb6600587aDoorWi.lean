import Derived.Test.Qxb6600587aDoorWh
namespace Go.Proofs.Qxb6600587aDoor
open Go.RowKit Go.Shelf
set_option linter.unusedVariables false

set_option maxHeartbeats 400000 in
theorem wait_eof (a : Option Addr) (n c : Nat) (w : World) :
    Calls Tryd.prog 9 #[.slice a n c, .bool true] w fun e w' => e = .returned (.bool ((n : Int) == 0)) ∧ w' = w := by
  go_enter Tryd.func9, Tryd.ntmps9
  go_wp2
  go_ret
  exact ⟨rfl, rfl⟩

theorem ne10 {x : UInt8} (h : x ≠ 10) : ((x.toNat : Int) == 10) = false := by
  rw [beq_eq_false_iff_ne]
  intro e
  exact h (UInt8.toNat_inj.1 (by show x.toNat = 10; omega))
theorem ne13 {x : UInt8} (h : x ≠ 13) : ((x.toNat : Int) == 13) = false := by
  rw [beq_eq_false_iff_ne]
  intro e
  exact h (UInt8.toNat_inj.1 (by show x.toNat = 13; omega))
theorem ret_bool {a b : Bool} (h : a = b) : Ending.returned (.bool a) = .returned (.bool b) := by rw [h]

set_option maxHeartbeats 1000000 in
theorem wait_more (a : Option Addr) (n c : Nat) (l : List UInt8) (v : Bool) (w : World) (hs : Sl w a n c l) (hv : v = true ↔ NoC l) :
    Calls Tryd.prog 9 #[.slice a n c, .bool false] w fun e w' => e = .returned (.bool v) ∧ w' = w := by
  have HV : Hid (v = true ↔ NoC l) := hv
  clear hv
  have hn := hs.small
  have HS : Hid (Sl w a n c l) := hs
  clear hs
  go_enter Tryd.func9, Tryd.ntmps9
  go_wp2
  go_loop [5] (fun s5 => ∃ i : Nat, i ≤ n ∧ s5 = .int .i64 i ∧ NoCT l i) (fun s5 => n - (intOf s5).toNat)
  case atStart => exact ⟨0, Nat.zero_le _, rfl, fun j x h => absurd h (Nat.not_lt_zero _)⟩
  case round =>
    obtain ⟨i, hi, rfl, hno⟩ := hrel
    have HN : Hid (NoCT l i) := hno
    clear hno
    by_cases hlt : i < n
    · obtain ⟨b, off, rfl, hx, hc⟩ := HS.out.at_ (by omega)
      have hil : i < l.length := by rw [← HS.out.len]; exact hlt
      obtain ⟨x, hxl⟩ : ∃ x : UInt8, l[i]? = some x := ⟨_, List.getElem?_eq_getElem hil⟩
      have hcell := hc i x hxl
      have Hx : Hid (l[i]? = some x) := hxl
      clear hxl hc
      have hlt' : (i : Int) < (n : Int) := by omega
      by_cases h10 : x = 10
      · have e10 : ((x.toNat : Int) == 10) = true := by rw [h10]; rfl
        have H10 : Hid (x = 10) := h10
        clear h10
        go_wp2
        go_ret
        exact ⟨ret_bool (Bool.eq_false_iff.2 fun h => (HV.out.1 h i x Hx.out).1 H10.out).symm, rfl⟩
      · have e10 := ne10 h10
        have H10 : Hid (x ≠ 10) := h10
        clear h10
        by_cases h13 : x = 13
        · have e13 : ((x.toNat : Int) == 13) = true := by rw [h13]; rfl
          have H13 : Hid (x = 13) := h13
          clear h13
          by_cases h2 : i + 1 < n
          · have h2' : (i : Int) + 1 < (n : Int) := by omega
            go_wp2
            go_ret
            exact ⟨ret_bool (Bool.eq_false_iff.2 fun h => (HV.out.1 h i x Hx.out).2 H13.out (by rw [← HS.out.len]; exact h2)).symm, rfl⟩
          · have h2' : ¬ (i : Int) + 1 < (n : Int) := by omega
            go_wp2
            go_round
            case rel => exact ⟨i + 1, by omega, by go_num, HN.out.succ Hx.out H10.out (fun _ => by rw [← HS.out.len]; exact h2)⟩
            case measure => simp [intOf]; omega
        · have e13 := ne13 h13
          have H13 : Hid (x ≠ 13) := h13
          clear h13
          go_wp2
          go_round
          case rel => exact ⟨i + 1, by omega, by go_num, HN.out.succ Hx.out H10.out (fun h => absurd h H13.out)⟩
          case measure => simp [intOf]; omega
    · have hlt' : ¬ (i : Int) < (n : Int) := by omega
      go_wp2
      go_ret
      exact ⟨ret_bool (HV.out.2 fun j x hx => HN.out j x (by have := (List.getElem?_eq_some_iff.1 hx).1; have := HS.out.len; omega) hx).symm, rfl⟩
end Go.Proofs.Qxb6600587aDoor
