import Derived.Test.Qxb6605465aDoorWc
namespace Go.Proofs.Qxb6605465aDoor
open Go.RowKit
set_option linter.unusedVariables false
set_option linter.unusedSimpArgs false
set_option linter.unnecessarySimpa false

theorem ext_list (s : ByteArray) (a b : Nat) : (s.extract a b).data.toList = (s.data.toList.drop a).take (b - a) := by
  simp [ByteArray.data_extract, Array.toList_extract, List.extract_eq_take_drop]
theorem ext_drop (s : ByteArray) (k : Nat) : (s.extract k s.size).data.toList = s.data.toList.drop k := by
  rw [ext_list, List.take_of_length_le]
  rw [List.length_drop, Lib.size_eq]
  exact Nat.le_refl _
theorem at_of {s : ByteArray} {i : Nat} {x : UInt8} (h : s.data.toList[i]? = some x) (hi : i < s.size) : s[i]'hi = x := by
  have := Lib.data_getElem? s i hi
  rw [h] at this
  exact (Option.some.inj this).symm
theorem fd_full {l : List UInt8} (h : dims l = l.length) : fd l = false := by unfold fd; rw [if_pos (Or.inr h)]
theorem fd_deep {l : List UInt8} (h : 255 < dims l) : fd l = false := by unfold fd; rw [if_pos (Or.inl h)]
theorem fd_one {l : List UInt8} {c : UInt8} (h1 : ¬ 255 < dims l) (h2 : l.length = dims l + 1) (hc : l[dims l]? = some c) : fd l = baseB c := by
  unfold fd; rw [if_neg (by omega), if_pos (by omega), getD_of hc]
theorem fd_long {l M : List UInt8} {c y : UInt8} (h1 : ¬ 255 < dims l) (h2 : dims l + 2 ≤ l.length) (hc : l[dims l]? = some c) (hy : l[l.length - 1]? = some y) (hM : M = (l.drop (dims l + 1)).take (l.length - dims l - 2)) :
    fd l = (c == 76 && y == 59 && cls 0 M) := by
  unfold fd; rw [if_neg (by omega), if_neg (by omega), getD_of hc, getD_of hy, hM]

set_option maxHeartbeats 300000 in
set_option maxRecDepth 100000 in
theorem fd_any (s : ByteArray) (w : World) (hs : s.size ≤ 2000000) :
    Calls Tryd.prog 7 #[.string s] w fun e w' => e = .returned (.bool (fd s.data.toList)) ∧ w' = w := by
  have hdl := dims_le s.data.toList
  rw [← Lib.size_eq] at hdl
  have hin : ∀ i (h : i < s.size), i < dims s.data.toList → s[i]'h = 91 := fun i h hi => at_of (dims_at hi) h
  have hstop := dims_stop s.data.toList
  have HIn := Hid.mk' hin
  have HSt := Hid.mk' hstop
  have HL := Hid.mk' (Lib.size_eq s)
  obtain ⟨d, hd⟩ : ∃ d, d = dims s.data.toList := ⟨_, rfl⟩
  have HD := Hid.mk' hd
  rw [← hd] at hdl
  clear hin hstop hd
  go_enter Tryd.func7, Tryd.ntmps7
  go_wp2
  go_loop [3] (fun s3 => ∃ k : Nat, k ≤ d ∧ s3 = .int .i64 k) (fun s3 => d - (intOf s3).toNat)
  case atStart => exact ⟨0, Nat.zero_le _, rfl⟩
  case round =>
    obtain ⟨k, hk, rfl⟩ := hrel
    by_cases hkd : k < d
    · have hlt : k < s.size := by omega
      have hlt' : (k : Int) < (s.size : Int) := by omega
      have hc := HIn.out k hlt (by rw [← HD.out]; exact hkd)
      go_wp2
      go_round
      case rel => exact ⟨k + 1, by omega, by go_num⟩
      case measure => simp [intOf]; omega
    · obtain rfl : k = d := by omega
      by_cases hfull : k = s.size
      · have hlt' : ¬ (k : Int) < (s.size : Int) := by omega
        have hff := fd_full (l := s.data.toList) (by rw [← HD.out, ← HL.out]; exact hfull)
        have HF := Hid.mk' hff
        have e5 : ((k : Int) == (s.size : Int)) = true := beq_iff_eq.2 (by omega)
        clear hff hfull
        by_cases h255 : 255 < k
        · have h255' : (255 : Int) < (k : Int) := by omega
          go_wp2
          go_ret
          exact ⟨by rw [HF.out]; rfl, rfl⟩
        · have h255' : ¬ (255 : Int) < (k : Int) := by omega
          go_wp2
          go_ret
          exact ⟨by rw [HF.out]; rfl, rfl⟩
      · have hlt : k < s.size := by omega
        have hlt' : (k : Int) < (s.size : Int) := by omega
        obtain ⟨c, hc⟩ : ∃ c : UInt8, s[k]'hlt = c := ⟨_, rfl⟩
        have hcl : s.data.toList[k]? = some c := by rw [← hc]; exact Lib.data_getElem? s k hlt
        have hcd : s.data.toList[dims s.data.toList]? = some c := by rw [← HD.out]; exact hcl
        have hc91 : c ≠ 91 := fun e => HSt.out (by rw [hcd, e])
        have e91 : ((c.toNat : Int) == 91) = false := nb 91 (by decide) hc91
        have e5 : ((k : Int) == (s.size : Int)) = false := beq_eq_false_iff_ne.2 (by omega)
        by_cases h255 : 255 < k
        · have h255' : (255 : Int) < (k : Int) := by omega
          have hff := fd_deep (l := s.data.toList) (by rw [← HD.out]; exact h255)
          have HF := Hid.mk' hff
          clear hff hcl hcd hc91
          go_wp2
          go_ret
          exact ⟨by rw [HF.out]; rfl, rfl⟩
        · have h255' : ¬ (255 : Int) < (k : Int) := by omega
          obtain ⟨R, hR⟩ : ∃ R, s.extract k s.size = R := ⟨_, rfl⟩
          have hRl : R.data.toList = s.data.toList.drop k := by rw [← hR]; exact ext_drop s k
          have hRz : R.size = s.size - k := by rw [Lib.size_eq, hRl, List.length_drop, ← HL.out]
          have hR0 : 0 < R.size := by omega
          have hR0' : (0 : Int) < (R.size : Int) := by omega
          have hRs : R.size ≤ 2000000 := by omega
          have hRc : R[0]'hR0 = c := at_of (by rw [hRl, List.getElem?_drop]; exact hcl) hR0
          by_cases h1 : R.size = 1
          · have e1 : ((R.size : Int) == 1) = true := beq_iff_eq.2 (by omega)
            have hff := fd_one (l := s.data.toList) (by rw [← HD.out]; exact h255) (by rw [← HD.out, ← HL.out]; omega) hcd
            have HF := Hid.mk' hff
            clear hff hcl hcd hc91 hRl hRz h1
            go_wp2_with (go_at_call 13; refine (base_any c _).mono ?_; rintro e w1 ⟨rfl, hw1⟩; rw [hw1]; clear hw1 w1)
            go_ret
            exact ⟨by rw [HF.out]; rfl, rfl⟩
          · have e1 : ((R.size : Int) == 1) = false := beq_eq_false_iff_ne.2 (by omega)
            have hln : R.size - 1 < R.size := by omega
            obtain ⟨y, hy⟩ : ∃ y : UInt8, R[R.size - 1]'hln = y := ⟨_, rfl⟩
            obtain ⟨M, hM⟩ : ∃ M, R.extract 1 (R.size - 1) = M := ⟨_, rfl⟩
            have hMl : M.data.toList = (s.data.toList.drop (dims s.data.toList + 1)).take (s.data.toList.length - dims s.data.toList - 2) := by
              rw [← hM, ext_list, hRl, List.drop_drop, ← HD.out, ← HL.out, hRz]
              congr 1
            have hMz : M.size ≤ 2000000 := by
              rw [← hM, ByteArray.size_extract]; omega
            have hyl : s.data.toList[s.data.toList.length - 1]? = some y := by
              have h2 := Lib.data_getElem? R (R.size - 1) hln
              rw [hy, hRl, List.getElem?_drop, hRz] at h2
              rw [← HL.out, ← h2]
              congr 1
              omega
            have hff := fd_long (l := s.data.toList) (by rw [← HD.out]; exact h255) (by rw [← HD.out, ← HL.out]; omega) hcd hyl hMl
            have hcm := cls_any M w hMz
            have b1 : (1 : Int) ≤ (R.size : Int) - 1 := by omega
            clear hcl hcd hc91 hRl hMl hyl hRz h1
            by_cases h76 : c = 76
            · have e76 : ((c.toNat : Int) == 76) = true := yb 76 (by decide) h76
              rw [h76] at hff
              by_cases h59 : y = 59
              · have e59 : ((y.toNat : Int) == 59) = true := yb 59 (by decide) h59
                rw [h59] at hff
                have HF := Hid.mk' hff
                have HC := Hid.mk' hcm
                clear hff hcm h76 h59
                go_wp2_with (go_at_call 11; refine HC.out.mono ?_; rintro e w1 ⟨rfl, hw1⟩; rw [hw1]; clear hw1 w1)
                go_ret
                exact ⟨by rw [HF.out]; simp, rfl⟩
              · have e59 : ((y.toNat : Int) == 59) = false := nb 59 (by decide) h59
                have h59' : (y == 59) = false := beq_eq_false_iff_ne.2 h59
                rw [h59'] at hff
                have HF := Hid.mk' hff
                clear hff hcm h76 h59 h59'
                go_wp2
                go_ret
                exact ⟨by rw [HF.out]; simp, rfl⟩
            · have e76 : ((c.toNat : Int) == 76) = false := nb 76 (by decide) h76
              have h76' : (c == 76) = false := beq_eq_false_iff_ne.2 h76
              rw [h76'] at hff
              have HF := Hid.mk' hff
              clear hff hcm h76 h76'
              go_wp2
              go_ret
              exact ⟨by rw [HF.out]; simp, rfl⟩
end Go.Proofs.Qxb6605465aDoor
