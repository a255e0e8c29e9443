import Derived.Test.Qxb6605465aDoorWe
namespace Go.Proofs.Qxb6605465aDoor
open Go.RowKit
set_option linter.unusedVariables false
set_option linter.unusedSimpArgs false
set_option linter.unnecessarySimpa false

theorem take_list (s : ByteArray) (k : Nat) : (s.extract 0 (k + 1)).data.toList = s.data.toList.take (k + 1) := by
  rw [ext_list]; simp
theorem fd_take (s : ByteArray) (k : Nat) (w : World) (hs : s.size ≤ 1048576) :
    Calls Tryd.prog 7 #[.string (s.extract 0 (k + 1))] w fun e w' => e = .returned (.bool (fd (s.data.toList.take (k + 1)))) ∧ w' = w := by
  rw [← take_list]
  exact fd_any _ w (by rw [ByteArray.size_extract]; omega)

set_option maxHeartbeats 400000 in
theorem law3_big (s : ByteArray) (w : World) (h : 1048576 < s.size) :
    Calls Tryd.prog 3 #[.string s] w fun e w' => e = .returned (.bool true) ∧ w' = w := by
  go_enter Tryd.func3, Tryd.ntmps3
  go_wp2_with (go_at_call 5; refine (bytes5_no _ _ h).mono ?_; rintro e w' ⟨rfl, rfl⟩)
  go_ret
  exact ⟨rfl, rfl⟩

set_option maxHeartbeats 600000 in
set_option maxRecDepth 100000 in
theorem law3_small (s : ByteArray) (m : Int) (w : World) (hs : s.size ≤ 1048576) (hm : w.cell? ⟨0, 0, none⟩ = some (.int .i64 m)) :
    Calls Tryd.prog 3 #[.string s] w fun e w' => e = .returned (.bool true) ∧ Below w.heap.size w w' := by
  have hs' : ¬ (1048576 : Int) < (s.size : Int) := by omega
  have hz := zz_len s m w (by omega) hm
  rw [law] at hz
  have hdl := dims_le s.data.toList
  have hfl := fidx_le s.data.toList
  rw [← Lib.size_eq] at hdl hfl
  have hin : ∀ i (h : i < s.size), i < dims s.data.toList → s[i]'h = 91 := fun i h hi => at_of (dims_at hi) h
  have hin2 : ∀ i (h : i < s.size), i < fidx s.data.toList → s[i]'h ≠ 59 := fun i h hi e => fidx_before hi (by rw [← e]; exact Lib.data_getElem? s i h)
  have hstop := dims_stop s.data.toList
  have hw1 : want1 s.data.toList = if dims s.data.toList < s.size ∧ fd (s.data.toList.take (dims s.data.toList + 1)) = true then dims s.data.toList + 1 else 0 := by
    rw [Lib.size_eq]; rfl
  have hw2 : want s.data.toList = if fidx s.data.toList < s.size ∧ fd (s.data.toList.take (fidx s.data.toList + 1)) = true then fidx s.data.toList + 1 else want1 s.data.toList := by
    rw [Lib.size_eq]; rfl
  have gf59 : ∀ f, f = fidx s.data.toList → ∀ h : f < s.size, s[f]'h = 59 := fun f hf h => at_of (by rw [hf]; exact fidx_at (by rw [← Lib.size_eq, ← hf]; exact h)) h
  have gd91 : ∀ d, d = dims s.data.toList → ∀ h : d < s.size, s[d]'h ≠ 91 := fun d hd h e => hstop (by rw [← e, ← hd]; exact Lib.data_getElem? s _ h)
  obtain ⟨d, hd⟩ : ∃ d, d = dims s.data.toList := ⟨_, rfl⟩
  obtain ⟨f, hf⟩ : ∃ f, f = fidx s.data.toList := ⟨_, rfl⟩
  obtain ⟨W, hW⟩ : ∃ W, W = want s.data.toList := ⟨_, rfl⟩
  obtain ⟨V, hV⟩ : ∃ V, V = want1 s.data.toList := ⟨_, rfl⟩
  have hVb : V ≤ 1048577 := by
    rw [hV]; unfold want1
    split
    · rename_i h; have := h.1; rw [← Lib.size_eq] at this; omega
    · omega
  have hf59 := gf59 f hf
  have hd91 := gd91 d hd
  simp only [← hd, ← hf, ← hW, ← hV] at hz hdl hfl hin hin2 hw1 hw2
  obtain ⟨F1, hF1⟩ : ∃ F1, F1 = fd (s.data.toList.take (d + 1)) := ⟨_, rfl⟩
  obtain ⟨F2, hF2⟩ : ∃ F2, F2 = fd (s.data.toList.take (f + 1)) := ⟨_, rfl⟩
  have c1 := fun w => fd_take s d w hs
  have c2 := fun w => fd_take s f w hs
  rw [← hF1] at c1 hw1
  rw [← hF2] at c2 hw2
  have HZ := Hid.mk' hz
  have HI1 := Hid.mk' hin
  have HI2 := Hid.mk' hin2
  have HW1 := Hid.mk' hw1
  have HW2 := Hid.mk' hw2
  have H59 := Hid.mk' hf59
  have H91 := Hid.mk' hd91
  have C1 := Hid.mk' c1
  have C2 := Hid.mk' c2
  clear hz hin hin2 hw1 hw2 hf59 hd91 gf59 gd91 c1 c2 hstop hd hf hW hV hF1 hF2 hm
  go_enter Tryd.func3, Tryd.ntmps3
  go_wp2_with (first | (go_at_call 5; refine (bytes5_yes _ _ hs).mono ?_; rintro e w' ⟨rfl, hw⟩; rw [hw]; clear hw w') | (go_at_call 6; refine HZ.out.mono ?_; rintro e w0 ⟨rfl, hb0⟩))
  have HB0 := Hid.mk' hb0
  clear hb0
  go_loop [5] (fun s5 => ∃ k : Nat, k ≤ d ∧ s5 = .int .i64 k) (fun s5 => d - (intOf s5).toNat)
  case atStart => exact ⟨0, Nat.zero_le _, rfl⟩
  case round =>
    obtain ⟨k, hk, rfl⟩ := hrel
    by_cases hkd : k < d
    · have hlt : k < s.size := by omega
      have hlt' : (k : Int) < (s.size : Int) := by omega
      have hc := HI1.out k hlt hkd
      go_wp2
      go_round
      case rel => exact ⟨k + 1, by omega, by go_num⟩
      case measure => simp [intOf]; omega
    · obtain rfl : k = d := by omega
      go_upto_region 8 with fail
      go_cut [24] from 15 to 24 (fun s24 wx => s24 = .bool false ∧ wx = w0)
      case first =>
        by_cases hfull : k = s.size
        · have hlt' : ¬ (k : Int) < (s.size : Int) := by omega
          clear hfull
          go_wp2
          go_meet
          exact ⟨rfl, rfl⟩
        · have hlt : k < s.size := by omega
          have hlt' : (k : Int) < (s.size : Int) := by omega
          obtain ⟨c, hc⟩ : ∃ c : UInt8, s[k]'hlt = c := ⟨_, rfl⟩
          have h91 := H91.out hlt
          rw [hc] at h91
          have e91 : ((c.toNat : Int) == 91) = false := nb 91 (by decide) h91
          clear h91 hfull
          go_wp2
          go_meet
          exact ⟨rfl, rfl⟩
      case rest =>
      obtain ⟨rfl, rfl⟩ := hcut
      go_upto_region 10 with fail
      obtain ⟨B1, hB1⟩ : ∃ B1, B1 = (decide (k < s.size) && F1) := ⟨_, rfl⟩
      have HB1 := Hid.mk' hB1
      clear hB1
      go_cut [37] from 27 to 37 (fun s37 wx => s37 = .bool B1 ∧ wx = wc)
      case first =>
        by_cases hfull : k = s.size
        · have hlt' : ¬ (k : Int) < (s.size : Int) := by omega
          have hV0 : B1 = false := by rw [HB1.out, decide_eq_false (by omega)]; rfl
          have HV := Hid.mk' hV0
          clear hfull hV0
          go_wp2
          go_meet
          exact ⟨by rw [HV.out], rfl⟩
        · have hlt : k < s.size := by omega
          have hlt' : (k : Int) < (s.size : Int) := by omega
          have b1 : (k : Int) + 1 ≤ (s.size : Int) := by omega
          have hV0 : B1 = F1 := by rw [HB1.out, decide_eq_true hlt]; rfl
          have HV := Hid.mk' hV0
          clear hfull hV0
          go_wp2_with (go_at_call 7; refine (C1.out _).mono ?_; rintro e w1 ⟨rfl, hw1⟩; rw [hw1]; clear hw1 w1)
          go_meet
          exact ⟨by rw [HV.out], rfl⟩
      case rest =>
      obtain ⟨rfl, rfl⟩ := hcut
      go_upto_if 37 with fail
      go_cut [4] from 37 to 39 (fun s4 wx => s4 = .int .i64 (V : Int) ∧ wx = wc)
      case first =>
        cases hB : B1
        · have hV0 : V = 0 := by
            rw [HW1.out, if_neg]
            rintro ⟨h1, h2⟩
            have := HB1.out
            rw [hB, decide_eq_true h1, h2] at this
            cases this
          have HV := Hid.mk' hV0
          clear hV0
          subst hB
          go_wp2
          go_meet
          exact ⟨by rw [HV.out]; rfl, rfl⟩
        · have hV0 : V = k + 1 := by
            have := HB1.out
            rw [hB] at this
            have h2 := Bool.and_eq_true_iff.1 this.symm
            rw [HW1.out, if_pos ⟨of_decide_eq_true h2.1, h2.2⟩]
          have HV := Hid.mk' hV0
          clear hV0
          subst hB
          go_wp2
          go_meet
          exact ⟨by rw [HV.out]; simp, rfl⟩
      case rest =>
      obtain ⟨rfl, rfl⟩ := hcut
      go_wp2
      go_loop [6] (fun s6 => ∃ j : Nat, j ≤ f ∧ s6 = .int .i64 j) (fun s6 => f - (intOf s6).toNat)
      case atStart => exact ⟨0, Nat.zero_le _, rfl⟩
      case round =>
        obtain ⟨j, hj, rfl⟩ := hrel
        by_cases hjf : j < f
        · have hlt : j < s.size := by omega
          have hlt' : (j : Int) < (s.size : Int) := by omega
          obtain ⟨c, hc⟩ : ∃ c : UInt8, s[j]'hlt = c := ⟨_, rfl⟩
          have h59 := HI2.out j hlt hjf
          rw [hc] at h59
          have e59 : ((c.toNat : Int) == 59) = false := nb 59 (by decide) h59
          have e59' : ((c.toNat : Int) != 59) = true := by simpa using e59
          clear h59 e59
          go_wp2
          go_round
          case rel => exact ⟨j + 1, by omega, by go_num⟩
          case measure => simp [intOf]; omega
        · obtain rfl : j = f := by omega
          by_cases hfull : j = s.size
          · have hlt' : ¬ (j : Int) < (s.size : Int) := by omega
            have hWV : W = V := by rw [HW2.out, if_neg (fun h => by omega)]
            have HWV := Hid.mk' hWV
            clear hfull hWV
            go_wp2
            go_ret
            exact ⟨by rw [HWV.out]; simp, HB0.out⟩
          · have hlt : j < s.size := by omega
            have hlt' : (j : Int) < (s.size : Int) := by omega
            have h59 := H59.out hlt
            have b1 : (j : Int) + 1 ≤ (s.size : Int) := by omega
            cases hF : F2
            · have hWV : W = V := by rw [HW2.out, hF]; simp
              have HWV := Hid.mk' hWV
              rw [hF] at C2
              clear hfull hWV hF
              go_wp2_with (go_at_call 7; refine (C2.out _).mono ?_; rintro e w1 ⟨rfl, hw1⟩; rw [hw1]; clear hw1 w1)
              go_ret
              exact ⟨by rw [HWV.out]; simp, HB0.out⟩
            · have hWV : W = j + 1 := by rw [HW2.out, hF, if_pos ⟨hlt, rfl⟩]
              have HWV := Hid.mk' hWV
              rw [hF] at C2
              clear hfull hWV hF
              go_wp2_with (go_at_call 7; refine (C2.out _).mono ?_; rintro e w1 ⟨rfl, hw1⟩; rw [hw1]; clear hw1 w1)
              go_ret
              exact ⟨by rw [HWV.out]; simp, HB0.out⟩

theorem law3_any (s : ByteArray) (m : Int) (w : World) (hm : w.cell? ⟨0, 0, none⟩ = some (.int .i64 m)) :
    Calls Tryd.prog 3 #[.string s] w fun e w' => e = .returned (.bool true) ∧ Below w.heap.size w w' := by
  by_cases h : 1048576 < s.size
  · exact (law3_big s w h).mono fun e w' ⟨h1, h2⟩ => ⟨h1, h2 ▸ Below.refl _ _⟩
  · exact law3_small s m w (by omega) hm
end Go.Proofs.Qxb6605465aDoor
