import Derived.Test.Qxb6605443aDoorWj
import Derived.Deep.QuietTactic
import Derived.BigQuiet
namespace Go.Proofs.Qxb6605443aDoor
open Go.RowKit
set_option linter.unusedVariables false
set_option linter.unusedSimpArgs false
set_option linter.unnecessarySimpa false

/-- some bool is returned. -/
def SomeB (e : Ending) : Prop := ∃ b, e = .returned (.bool b)
theorem SomeB.mk (b : Bool) : SomeB (.returned (.bool b)) := ⟨b, rfl⟩
/-- what cookieHeaderBytes answers. -/
def SomeR (hs : List (ByteArray × ByteArray)) (e : Ending) : Prop := ∃ R : Int, e = .returned (.int .i64 R) ∧ 0 ≤ R ∧ R ≤ 5000000 ∧ (R ≤ 1048576 → ∀ h ∈ hs, h.1.size ≤ 1048576 ∧ h.2.size ≤ 1048576)
theorem SomeR.mk {hs : List (ByteArray × ByteArray)} (R : Int) (h1 : 0 ≤ R) (h2 : R ≤ 5000000) (h3 : R ≤ 1048576 → ∀ h ∈ hs, h.1.size ≤ 1048576 ∧ h.2.size ≤ 1048576) : SomeR hs (.returned (.int .i64 R)) := ⟨R, rfl, h1, h2, h3⟩

set_option maxHeartbeats 600000 in
set_option maxRecDepth 100000 in
theorem bytes6_any (ad : Option Addr) (cap : Nat) (hs : List (ByteArray × ByteArray)) (route name value : ByteArray) (w : World) (N : Nat) (hH : Hdr N w ad hs) :
    Calls Tryd.prog 6 #[.slice ad hs.length cap, .string route, .string name, .string value] w fun e w' => SomeB e ∧ w' = w := by
  have HH := Hid.mk' hH
  clear hH
  by_cases hbig : 1048576 < hs.length
  · have hbig' : (1048576 : Int) < (hs.length : Int) := by omega
    go_enter Tryd.func6, Tryd.ntmps6
    go_wp2
    go_ret
    exact ⟨SomeB.mk _, rfl⟩
  · have hbig' : ¬ (1048576 : Int) < (hs.length : Int) := by omega
    go_enter Tryd.func6, Tryd.ntmps6
    go_wp2
    go_loop [9, 10] (fun s9 s10 => ∃ z k : Nat, z ≤ 1048576 ∧ k ≤ hs.length ∧ s9 = .int .i64 z ∧ s10 = .int .i64 k) (fun _ s10 => hs.length - (intOf s10).toNat)
    case atStart => exact ⟨hs.length, 0, by omega, Nat.zero_le _, by go_num, rfl⟩
    case round =>
      obtain ⟨z, k, hz, hk, rfl, rfl⟩ := hrel
      by_cases hlt : k < hs.length
      · have hlt' : (k : Int) < (hs.length : Int) := by omega
        obtain ⟨h, hh⟩ : ∃ h, hs[k]? = some h := ⟨_, List.getElem?_eq_getElem hlt⟩
        obtain ⟨b, off, rfl, hbN, hc1, hc2⟩ := HH.out.a k h hh
        obtain ⟨x, y⟩ := h
        simp only at hc1 hc2
        clear hh
        go_wp2
        go_loop [9, 11] (fun s9 s11 => ∃ z j : Nat, z ≤ 1048576 ∧ j ≤ 2 ∧ s9 = .int .i64 z ∧ s11 = .int .i64 j) (fun _ s11 => 2 - (intOf s11).toNat)
        case atStart => exact ⟨z, 0, hz, Nat.zero_le _, rfl, rfl⟩
        case round =>
          clear hz
          obtain ⟨v, j, hz, hj, rfl, rfl⟩ := hrel
          rcases (show j = 0 ∨ j = 1 ∨ j = 2 by omega) with rfl | rfl | rfl
          · by_cases h1 : 1048576 < x.size
            · have h1' : (1048576 : Int) < (x.size : Int) := by omega
              go_wp2
              go_ret
              exact ⟨SomeB.mk _, rfl⟩
            · have h1' : ¬ (1048576 : Int) < (x.size : Int) := by omega
              by_cases h2 : 1048576 < v + x.size
              · have h2' : (1048576 : Int) < (v : Int) + (x.size : Int) := by omega
                go_wp2
                go_ret
                exact ⟨SomeB.mk _, rfl⟩
              · have h2' : ¬ (1048576 : Int) < (v : Int) + (x.size : Int) := by omega
                go_wp2
                go_round
                case rel => exact ⟨v + x.size, 1, by omega, by omega, by go_num, by go_num⟩
                case measure => simp [intOf]
          · by_cases h1 : 1048576 < y.size
            · have h1' : (1048576 : Int) < (y.size : Int) := by omega
              go_wp2
              go_ret
              exact ⟨SomeB.mk _, rfl⟩
            · have h1' : ¬ (1048576 : Int) < (y.size : Int) := by omega
              by_cases h2 : 1048576 < v + y.size
              · have h2' : (1048576 : Int) < (v : Int) + (y.size : Int) := by omega
                go_wp2
                go_ret
                exact ⟨SomeB.mk _, rfl⟩
              · have h2' : ¬ (1048576 : Int) < (v : Int) + (y.size : Int) := by omega
                go_wp2
                go_round
                case rel => exact ⟨v + y.size, 2, by omega, by omega, by go_num, by go_num⟩
                case measure => simp [intOf]
          · go_wp2
            go_round
            case rel => exact ⟨v, k + 1, hz, by omega, rfl, by go_num⟩
            case measure => simp [intOf]; omega
      · have hlt' : ¬ (k : Int) < (hs.length : Int) := by omega
        go_wp2
        all_goals
          go_ret
          exact ⟨SomeB.mk _, rfl⟩

set_option maxHeartbeats 600000 in
set_option maxRecDepth 100000 in
theorem bytes7_any (ad : Option Addr) (cap : Nat) (hs : List (ByteArray × ByteArray)) (w : World) (hH : Hdr w.heap.size w ad hs) (hn : hs.length ≤ 65536) :
    Calls Tryd.prog 7 #[.slice ad hs.length cap] w fun e w' => SomeR hs e ∧ Below w.heap.size w w' := by
  have HH := Hid.mk' hH
  clear hH
  go_enter Tryd.func7, Tryd.ntmps7
  go_wp2
  go_loopw [3, 4] (fun s3 s4 wr => ∃ z k : Nat, z ≤ 1048576 ∧ k ≤ hs.length ∧ s3 = .int .i64 z ∧ s4 = .int .i64 k ∧ (∀ i h, i < k → hs[i]? = some h → h.1.size ≤ 1048576 ∧ h.2.size ≤ 1048576) ∧ Below w.heap.size w wr) (fun _ s4 _ => hs.length - (intOf s4).toNat)
  case atStart => exact ⟨0, 0, by omega, Nat.zero_le _, rfl, rfl, fun i h hi _ => absurd hi (Nat.not_lt_zero _), Below.refl _ _⟩
  case round =>
    obtain ⟨z, k, hz, hk, rfl, rfl, hall, hb⟩ := hrel
    have HA := Hid.mk' hall
    have HB := Hid.mk' hb
    clear hall hb
    by_cases hlt : k < hs.length
    · have hlt' : (k : Int) < (hs.length : Int) := by omega
      obtain ⟨h, hh⟩ : ∃ h, hs[k]? = some h := ⟨_, List.getElem?_eq_getElem hlt⟩
      obtain ⟨b, off, rfl, hbN, hc1, hc2⟩ := (HH.out.below HB.out).a k h hh
      obtain ⟨x, y⟩ := h
      simp only at hc1 hc2
      have HK := Hid.mk' hh
      clear hh
      by_cases h1 : 1048576 < x.size
      · have h1' : (1048576 : Int) < (x.size : Int) := by omega
        go_wp2
        go_ret
        exact ⟨SomeR.mk _ (by omega) (by omega) (fun h => by omega), HB.out⟩
      · have h1' : ¬ (1048576 : Int) < (x.size : Int) := by omega
        by_cases h2 : 1048576 < y.size
        · have h2' : (1048576 : Int) < (y.size : Int) := by omega
          go_wp2
          go_ret
          exact ⟨SomeR.mk _ (by omega) (by omega) (fun h => by omega), HB.out⟩
        · have h2' : ¬ (1048576 : Int) < (y.size : Int) := by omega
          have HA2 : Hid (∀ i h, i < k + 1 → hs[i]? = some h → h.1.size ≤ 1048576 ∧ h.2.size ≤ 1048576) := Hid.mk' (fun i h hi hh => by
            by_cases e : i = k
            · subst e
              rw [HK.out] at hh
              obtain rfl := Option.some.inj hh
              exact ⟨by simp only; omega, by simp only; omega⟩
            · exact HA.out i h (by omega) hh)
          by_cases h3 : 1048576 < z + (32 + x.size + y.size)
          · have h3' : (1048576 : Int) < (z : Int) + (32 + (x.size : Int) + (y.size : Int)) := by omega
            go_wp2
            go_quiet (fail)
            go_wp2
            go_ret
            exact ⟨SomeR.mk _ (by omega) (by omega) (fun h => by omega), below_drewN HB.out _⟩
          · have h3' : ¬ (1048576 : Int) < (z : Int) + (32 + (x.size : Int) + (y.size : Int)) := by omega
            go_wp2
            go_quiet (fail)
            go_wp2
            go_roundw
            case rel => exact ⟨z + (32 + x.size + y.size), k + 1, by omega, by omega, by go_num, by go_num, HA2.out, below_drewN HB.out _⟩
            case measure => simp [intOf]; omega
    · have hlt' : ¬ (k : Int) < (hs.length : Int) := by omega
      go_wp2
      go_ret
      exact ⟨SomeR.mk _ (by omega) (by omega) (fun _ h hh => by
        obtain ⟨i, hi⟩ := List.getElem?_of_mem hh
        exact HA.out i h (by have := (List.getElem?_eq_some_iff.1 hi).1; omega) hi), HB.out⟩
end Go.Proofs.Qxb6605443aDoor
