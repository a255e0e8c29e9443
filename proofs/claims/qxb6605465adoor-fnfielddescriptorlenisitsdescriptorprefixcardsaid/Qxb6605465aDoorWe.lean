import Derived.Test.Qxb6605465aDoorWd
namespace Go.Proofs.Qxb6605465aDoor
open Go.RowKit
set_option linter.unusedVariables false
set_option linter.unusedSimpArgs false
set_option linter.unnecessarySimpa false

theorem ans_full {l : List UInt8} (h : dims l = l.length) : ans l = 0 := by unfold ans; rw [if_pos (Or.inr h)]
theorem ans_deep {l : List UInt8} (h : 255 < dims l) : ans l = 0 := by unfold ans; rw [if_pos (Or.inl h)]
theorem ans_base {l : List UInt8} {c : UInt8} (h1 : ¬ 255 < dims l) (h2 : dims l ≠ l.length) (hc : l[dims l]? = some c) (hb : baseB c = true) : ans l = dims l + 1 := by
  unfold ans; rw [if_neg (by omega), getD_of hc, if_pos hb]
theorem ans_other {l : List UInt8} {c : UInt8} (h1 : ¬ 255 < dims l) (h2 : dims l ≠ l.length) (hc : l[dims l]? = some c) (hb : baseB c = false) (h76 : c ≠ 76) : ans l = 0 := by
  unfold ans; rw [if_neg (by omega), getD_of hc, if_neg (by rw [hb]; simp), if_neg h76]
theorem ans_L {l : List UInt8} (h1 : ¬ 255 < dims l) (h2 : dims l ≠ l.length) (hc : l[dims l]? = some 76) :
    ans l = (if fidx l < l.length ∧ vcls ((l.drop (dims l + 1)).take (fidx l - dims l - 1)) = true then fidx l + 1 else 0) := by
  unfold ans; rw [if_neg (by omega), getD_of hc, if_neg (by rw [base76]; simp), if_pos rfl]

set_option maxHeartbeats 600000 in
set_option maxRecDepth 100000 in
theorem len_any (s : ByteArray) (m : Int) (w : World) (hs : s.size ≤ 2000000) (hm : w.cell? ⟨0, 0, none⟩ = some (.int .i64 m)) :
    Calls Tryd.prog 12 #[.string s] w fun e w' => e = .returned (.int .i64 (ans s.data.toList : Int)) ∧ Below w.heap.size w w' := by
  have hdl := dims_le s.data.toList
  rw [← Lib.size_eq] at hdl
  have hin : ∀ i (h : i < s.size), i < dims s.data.toList → s[i]'h = 91 := fun i h hi => at_of (dims_at hi) h
  have hstop := dims_stop s.data.toList
  have HIn := Hid.mk' hin
  have HSt := Hid.mk' hstop
  have HL := Hid.mk' (Lib.size_eq s)
  have HM := Hid.mk' hm
  obtain ⟨d, hd⟩ : ∃ d, d = dims s.data.toList := ⟨_, rfl⟩
  have HD := Hid.mk' hd
  rw [← hd] at hdl
  clear hin hstop hd hm
  go_enter Tryd.func12, Tryd.ntmps12
  go_wp2
  go_loop [3] (fun s3 => ∃ k : Nat, k ≤ d ∧ s3 = .int .i64 k) (fun s3 => d - (intOf s3).toNat)
  case atStart => exact ⟨0, Nat.zero_le _, rfl⟩
  case round =>
    obtain ⟨k, hk, rfl⟩ := hrel
    by_cases hkd : k < d
    · have hlt : k < s.size := by omega
      have hlt' : (k : Int) < (s.size : Int) := by omega
      have hc := HIn.out k hlt (by rw [← HD.out]; exact hkd)
      go_wp2
      go_round
      case rel => exact ⟨k + 1, by omega, by go_num⟩
      case measure => simp [intOf]; omega
    · obtain rfl : k = d := by omega
      by_cases hfull : k = s.size
      · have hlt' : ¬ (k : Int) < (s.size : Int) := by omega
        have hff := ans_full (l := s.data.toList) (by rw [← HD.out, ← HL.out]; exact hfull)
        have HF := Hid.mk' hff
        have e5 : ((k : Int) == (s.size : Int)) = true := beq_iff_eq.2 (by omega)
        clear hff hfull
        by_cases h255 : 255 < k
        · have h255' : (255 : Int) < (k : Int) := by omega
          go_wp2
          go_ret
          exact ⟨by rw [HF.out]; rfl, Below.refl _ _⟩
        · have h255' : ¬ (255 : Int) < (k : Int) := by omega
          go_wp2
          go_ret
          exact ⟨by rw [HF.out]; rfl, Below.refl _ _⟩
      · have hlt : k < s.size := by omega
        have hlt' : (k : Int) < (s.size : Int) := by omega
        obtain ⟨c, hc⟩ : ∃ c : UInt8, s[k]'hlt = c := ⟨_, rfl⟩
        have hcl : s.data.toList[k]? = some c := by rw [← hc]; exact Lib.data_getElem? s k hlt
        have hcd : s.data.toList[dims s.data.toList]? = some c := by rw [← HD.out]; exact hcl
        have hc91 : c ≠ 91 := fun e => HSt.out (by rw [hcd, e])
        have e91 : ((c.toNat : Int) == 91) = false := nb 91 (by decide) hc91
        have e5 : ((k : Int) == (s.size : Int)) = false := beq_eq_false_iff_ne.2 (by omega)
        by_cases h255 : 255 < k
        · have h255' : (255 : Int) < (k : Int) := by omega
          have hff := ans_deep (l := s.data.toList) (by rw [← HD.out]; exact h255)
          have HF := Hid.mk' hff
          clear hff hcl hcd hc91
          go_wp2
          go_ret
          exact ⟨by rw [HF.out]; rfl, Below.refl _ _⟩
        · have h255' : ¬ (255 : Int) < (k : Int) := by omega
          have g1 : ¬ 255 < dims s.data.toList := by rw [← HD.out]; exact h255
          have g2 : dims s.data.toList ≠ s.data.toList.length := by rw [← HD.out, ← HL.out]; exact hfull
          cases hb : baseB c
          · have hn : ¬ (c = 66 ∨ c = 67 ∨ c = 68 ∨ c = 70 ∨ c = 73 ∨ c = 74 ∨ c = 83 ∨ c = 90) := fun h => by rw [(base_iff c).2 h] at hb; cases hb
            simp only [not_or] at hn
            obtain ⟨n1, n2, n3, n4, n5, n6, n7, n8⟩ := hn
            have a1 : ((c.toNat : Int) == 66) = false := nb 66 (by decide) n1
            have a2 : ((c.toNat : Int) == 67) = false := nb 67 (by decide) n2
            have a3 : ((c.toNat : Int) == 68) = false := nb 68 (by decide) n3
            have a4 : ((c.toNat : Int) == 70) = false := nb 70 (by decide) n4
            have a5 : ((c.toNat : Int) == 73) = false := nb 73 (by decide) n5
            have a6 : ((c.toNat : Int) == 74) = false := nb 74 (by decide) n6
            have a7 : ((c.toNat : Int) == 83) = false := nb 83 (by decide) n7
            have a8 : ((c.toNat : Int) == 90) = false := nb 90 (by decide) n8
            by_cases h76 : c = 76
            · have e76 : ((c.toNat : Int) == 76) = true := yb 76 (by decide) h76
              have hff := ans_L g1 g2 (by rw [hcd, h76])
              have hix := idx_semi s.data.toList
              rw [← HD.out, ← HL.out] at hix hff
              have hkf := dims_fidx (l := s.data.toList)
              rw [← HD.out] at hkf
              obtain ⟨R, hR⟩ : ∃ R, s.extract k s.size = R := ⟨_, rfl⟩
              have hRl : R.data.toList = s.data.toList.drop k := by rw [← hR]; exact ext_drop s k
              have hcall := fun w => Tryd.strings_IndexByte R 59 w
              rw [show (59 : Int).toNat.toUInt8 = 59 from rfl, hRl] at hcall
              by_cases hsemi : fidx s.data.toList < s.size
              · have hne : k ≠ fidx s.data.toList := fun e => by
                  have := fidx_at (l := s.data.toList) (by rw [← HL.out]; exact hsemi)
                  rw [← e, hcl, h76] at this
                  cases this
                rw [hix.1 hsemi] at hcall
                obtain ⟨o, ho⟩ : ∃ o, o = fidx s.data.toList - k := ⟨_, rfl⟩
                rw [← ho] at hcall
                have ho1 : 1 ≤ o := by omega
                have hos : k + o ≤ s.size := by omega
                have hfo : fidx s.data.toList + 1 = k + o + 1 := by omega
                obtain ⟨M, hM⟩ : ∃ M, s.extract (k + 1) (k + o) = M := ⟨_, rfl⟩
                have hMl : M.data.toList = (s.data.toList.drop (k + 1)).take (fidx s.data.toList - k - 1) := by
                  rw [← hM, ext_list]
                  congr 1
                  omega
                have hMz : M.size < 4294967281 := by rw [← hM, ByteArray.size_extract]; omega
                have hv := vcls_any M m w hMz HM.out
                rw [← hMl, hfo] at hff
                have b1 : (k : Int) + 1 ≤ (k : Int) + (o : Int) := by omega
                have b2 : (k : Int) + (o : Int) ≤ (s.size : Int) := by omega
                have b3 : ¬ (o : Int) < 0 := by omega
                have HC := Hid.mk' hcall
                have HV := Hid.mk' hv
                clear hv hcall hMl hRl hix hkf n1 n2 n3 n4 n5 n6 n7 n8 hb hcl hcd hc91 g1 g2 hne ho hfo
                cases hq : vcls M.data.toList
                · rw [hq] at HV hff
                  have HF := Hid.mk' hff
                  clear hff hq h76 hsemi
                  go_wp2_with (first | (go_at_call 14; refine (HC.out _).mono ?_; rintro e w1 ⟨rfl, hw1⟩; rw [hw1]; clear hw1 w1) | (go_at_call 15; refine HV.out.mono ?_; rintro e w1 ⟨rfl, hb1⟩))
                  go_ret
                  exact ⟨by rw [HF.out]; simp, hb1⟩
                · rw [hq] at HV hff
                  rw [if_pos ⟨hsemi, rfl⟩] at hff
                  have HF := Hid.mk' hff
                  clear hff hq h76 hsemi
                  go_wp2_with (first | (go_at_call 14; refine (HC.out _).mono ?_; rintro e w1 ⟨rfl, hw1⟩; rw [hw1]; clear hw1 w1) | (go_at_call 15; refine HV.out.mono ?_; rintro e w1 ⟨rfl, hb1⟩))
                  go_ret
                  exact ⟨by rw [HF.out]; simp, hb1⟩
              · rw [hix.2 hsemi] at hcall
                rw [if_neg (fun h => hsemi h.1)] at hff
                have HF := Hid.mk' hff
                have HC := Hid.mk' hcall
                clear hff hcall hRl hix hkf n1 n2 n3 n4 n5 n6 n7 n8 hb hcl hcd hc91 g1 g2 h76 hsemi
                go_wp2_with (go_at_call 14; refine (HC.out _).mono ?_; rintro e w1 ⟨rfl, hw1⟩; rw [hw1]; clear hw1 w1)
                go_ret
                exact ⟨by rw [HF.out]; rfl, Below.refl _ _⟩
            · have e76 : ((c.toNat : Int) == 76) = false := nb 76 (by decide) h76
              have hff := ans_other g1 g2 hcd hb h76
              have HF := Hid.mk' hff
              clear hff n1 n2 n3 n4 n5 n6 n7 n8 hb hcl hcd hc91 g1 g2 h76
              go_wp2
              go_ret
              exact ⟨by rw [HF.out]; rfl, Below.refl _ _⟩
          · have hff := ans_base g1 g2 hcd hb
            rw [← HD.out] at hff
            have HF := Hid.mk' hff
            have hcases := (base_iff c).1 hb
            clear hff hb hcl hcd hc91 g1 g2
            rcases hcases with h | h | h | h | h | h | h | h
            all_goals
              subst h
              go_wp2
              go_ret
              exact ⟨by rw [HF.out]; simp, Below.refl _ _⟩

set_option maxHeartbeats 400000 in
theorem zz_len (s : ByteArray) (m : Int) (w : World) (hs : s.size ≤ 2000000) (hm : w.cell? ⟨0, 0, none⟩ = some (.int .i64 m)) :
    Calls Tryd.prog 6 #[.string s] w fun e w' => e = .returned (.int .i64 (ans s.data.toList : Int)) ∧ Below w.heap.size w w' := by
  have h := len_any s m w hs hm
  go_enter Tryd.func6, Tryd.ntmps6
  go_wp2_with (go_at_call 12; refine h.mono ?_; rintro e w1 ⟨rfl, hb⟩)
  go_ret
  exact ⟨rfl, hb⟩
set_option maxHeartbeats 400000 in
theorem bytes5_yes (s : ByteArray) (w : World) (h : s.size ≤ 1048576) :
    Calls Tryd.prog 5 #[.string s] w fun e w' => e = .returned (.bool true) ∧ w' = w := by
  have h' : ¬ (1048576 : Int) < (s.size : Int) := by omega
  go_enter Tryd.func5, Tryd.ntmps5
  go_wp2
  go_ret
  exact ⟨rfl, rfl⟩
set_option maxHeartbeats 400000 in
theorem bytes5_no (s : ByteArray) (w : World) (h : 1048576 < s.size) :
    Calls Tryd.prog 5 #[.string s] w fun e w' => e = .returned (.bool false) ∧ w' = w := by
  have h' : (1048576 : Int) < (s.size : Int) := by omega
  go_enter Tryd.func5, Tryd.ntmps5
  go_wp2
  go_ret
  exact ⟨rfl, rfl⟩
end Go.Proofs.Qxb6605465aDoor
