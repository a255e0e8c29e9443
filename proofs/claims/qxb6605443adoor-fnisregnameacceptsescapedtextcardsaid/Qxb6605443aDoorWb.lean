import Derived.Test.Qxb6605443aDoorWa
import Derived.Lib.Strings
import Derived.Lib.IndexBytes
import Derived.Deep.Cut
import Derived.Deep.CutRange
namespace Go.Proofs.Qxb6605443aDoor
open Go.RowKit
set_option linter.unusedVariables false
set_option linter.unusedSimpArgs false

theorem str_empty {r : ByteArray} (h : r.data.toList = []) : r = ⟨#[]⟩ := by
  cases r with
  | mk d => cases d with
    | mk l => simp at h; subst h; rfl
theorem ne37 {x : UInt8} (h : x ≠ 37) : ((x.toNat : Int) == 37) = false := by
  rw [beq_eq_false_iff_ne]
  intro e
  exact h (UInt8.toNat_inj.1 (by show x.toNat = 37; omega))

set_option maxHeartbeats 2000000 in
set_option maxRecDepth 100000 in
theorem reg_walk (s : ByteArray) (w : World) (hs : s.size ≤ 4000000) :
    Calls Tryd.prog 18 #[.string s] w fun e w' => e = .returned (.bool (want s.data.toList)) ∧ Below w.heap.size w w' := by
  have hat : ∀ i (h : i < s.size), s.data.toList.drop i = s[i]'h :: s.data.toList.drop (i + 1) := fun i h => by
    have h1 := Lib.data_getElem? s i h
    obtain ⟨hi, hx⟩ := List.getElem?_eq_some_iff.1 h1
    rw [List.drop_eq_getElem_cons hi, hx]
  have hnil : ∀ i, s.size ≤ i → s.data.toList.drop i = [] := fun i h => by
    rw [List.drop_eq_nil_iff, ← Lib.size_eq]; exact h
  have hex2 : ∀ i (h : i + 2 < s.size), (s.extract (i + 1) (i + 3)).data.toList = [s[i + 1]'(by omega), s[i + 2]'h] := fun i h => by
    have h1 := hat (i + 1) (by omega)
    have h2 := hat (i + 2) h
    have e : (s.extract (i + 1) (i + 3)).data.toList = (s.data.toList.drop (i + 1)).take 2 := by
      simp [ByteArray.data_extract, Array.toList_extract, List.extract_eq_take_drop]
    rw [e, h1, h2]; rfl
  have HA := Hid.mk' hat
  have HN := Hid.mk' hnil
  have HX := Hid.mk' hex2
  clear hat hnil hex2
  go_enter Tryd.func18, Tryd.ntmps18
  go_wp2
  go_loopw [3] (fun s3 wr => ∃ k : Nat, k ≤ s.size ∧ s3 = .int .i64 k ∧ want (s.data.toList.drop k) = want s.data.toList ∧ Below w.heap.size w wr) (fun s3 _ => s.size - (intOf s3).toNat)
  case atStart => exact ⟨0, Nat.zero_le _, rfl, rfl, Below.refl _ _⟩
  case round =>
    obtain ⟨k, hk, rfl, hw, hb⟩ := hrel
    have HW := Hid.mk' hw
    have HB := Hid.mk' hb
    clear hw hb
    by_cases hlt : k < s.size
    · have hlt' : (k : Int) < (s.size : Int) := by omega
      obtain ⟨c, hc⟩ : ∃ c : UInt8, s[k]'hlt = c := ⟨_, rfl⟩
      have hd := HA.out k hlt
      rw [hc] at hd
      have HD := Hid.mk' hd
      clear hd
      by_cases h37 : c = 37
      · have e37 : ((c.toNat : Int) == 37) = true := by rw [h37]; rfl
        by_cases h2 : k + 2 < s.size
        · have h2' : ¬ (s.size : Int) ≤ (k : Int) + 2 := by omega
          have ht := HX.out k h2
          obtain ⟨t, htt⟩ : ∃ t, s.extract (k + 1) (k + 3) = t := ⟨_, rfl⟩
          have hd1 := HA.out (k + 1) (by omega)
          have hd2 := HA.out (k + 2) h2
          generalize s[k + 1]'(by omega) = a at ht hd1
          generalize s[k + 2]'h2 = b at ht hd2
          rw [htt] at ht
          have hw2 : (hexB a && hexB b) = true → want (s.data.toList.drop (k + 3)) = want s.data.toList := fun h => by
            rw [Bool.and_eq_true] at h
            rw [← HW.out, HD.out, h37, hd1, hd2, want_pct h.1 h.2]
          have hw3 : (hexB a && hexB b) = false → want s.data.toList = false := fun h => by
            rw [← HW.out, HD.out, h37, hd1, hd2]
            exact want_bad h
          have HW2 := Hid.mk' hw2
          have HW3 := Hid.mk' hw3
          have HT := Hid.mk' ht
          clear hw2 hw3 ht hd1 hd2 h37
          have k1 : (k : Int) + 1 ≤ (k : Int) + 3 := by omega
          have k3 : (k : Int) + 3 ≤ (s.size : Int) := by omega
          have k0 : (0 : Int) ≤ (k : Int) + 1 := by omega
          cases hh : (hexB a && hexB b)
          · go_wp2_with (go_at_call 21; refine (trim_any _ a b _ HT.out).mono ?_; rintro e w1 ⟨⟨r, rfl, hr⟩, hb1⟩; rw [hh] at hr)
            go_ret
            exact ⟨by rw [HW3.out hh]; rfl, HB.out.trans (hb1.mono HB.out.size)⟩
          · go_wp2_with (go_at_call 21; refine (trim_any _ a b _ HT.out).mono ?_; rintro e w1 ⟨⟨r, rfl, hr⟩, hb1⟩; rw [hh] at hr)
            go_roundw
            case rel => exact ⟨k + 3, by omega, by go_num, HW2.out hh, HB.out.trans (hb1.mono HB.out.size)⟩
            case measure => simp [intOf]; omega
        · have h2' : (s.size : Int) ≤ (k : Int) + 2 := by omega
          have hw3 : want s.data.toList = false := by
            rw [← HW.out, HD.out, h37]
            refine want_bad ?_
            by_cases h1 : k + 1 < s.size
            · rw [HA.out (k + 1) h1, HN.out (k + 1 + 1) (by omega)]; rfl
            · rw [HN.out (k + 1) (by omega)]; rfl
          have HW3 := Hid.mk' hw3
          clear hw3 h37
          go_wp2
          go_ret
          exact ⟨by rw [HW3.out]; rfl, HB.out⟩
      · have e37 := ne37 h37
        cases hr : regB c
        · have hw3 : want s.data.toList = false := by rw [← HW.out, HD.out, want_not hr h37]
          have HW3 := Hid.mk' hw3
          clear hw3 h37
          go_wp2_with (go_at_call 22; refine (idx_any c _).mono ?_; rintro e w1 ⟨⟨q, rfl, hq⟩, hw1⟩; rw [hw1]; clear hw1 w1; rw [hr] at hq)
          go_ret
          exact ⟨by rw [HW3.out]; rfl, HB.out⟩
        · have hw2 : want (s.data.toList.drop (k + 1)) = want s.data.toList := by rw [← HW.out, HD.out, want_reg hr]
          have HW2 := Hid.mk' hw2
          clear hw2 h37
          go_wp2_with (go_at_call 22; refine (idx_any c _).mono ?_; rintro e w1 ⟨⟨q, rfl, hq⟩, hw1⟩; rw [hw1]; clear hw1 w1; rw [hr] at hq)
          go_roundw
          case rel => exact ⟨k + 1, hlt, by go_num, HW2.out, HB.out⟩
          case measure => simp [intOf]; omega
    · have hlt' : ¬ (k : Int) < (s.size : Int) := by omega
      have hw3 : want s.data.toList = true := by rw [← HW.out, HN.out k (by omega)]; rfl
      have HW3 := Hid.mk' hw3
      clear hw3
      go_wp2
      go_ret
      exact ⟨by rw [HW3.out]; rfl, HB.out⟩
set_option maxHeartbeats 400000 in
theorem zz_reg (s : ByteArray) (w : World) (hs : s.size ≤ 4000000) :
    Calls Tryd.prog 13 #[.string s] w fun e w' => e = .returned (.bool (want s.data.toList)) ∧ Below w.heap.size w w' := by
  have h := reg_walk s w hs
  go_enter Tryd.func13, Tryd.ntmps13
  go_wp2_with (go_at_call 18; refine h.mono ?_; rintro e w1 ⟨rfl, hb⟩)
  go_ret
  exact ⟨rfl, hb⟩
end Go.Proofs.Qxb6605443aDoor
