import Derived.Test.Qxb6605252aDoorWa
import Derived.Test.Qxb6605252aDoorPlain2
import Derived.Lib.Strings
import Derived.Lib.IndexBytes
import Derived.Deep.Cut
import Derived.Deep.CutRange
namespace Go.Proofs.Qxb6605252aDoor
open Go.RowKit
set_option linter.unusedVariables false
set_option linter.unnecessarySimpa false
set_option linter.unusedSimpArgs false

theorem n46 {x : UInt8} (h : x ≠ 46) : ((x.toNat : Int) == 46) = false := by
  rw [beq_eq_false_iff_ne]
  intro e
  exact h (UInt8.toNat_inj.1 (by show x.toNat = 46; omega))
theorem n47 {x : UInt8} (h : x ≠ 47) : ((x.toNat : Int) == 47) = false := by
  rw [beq_eq_false_iff_ne]
  intro e
  exact h (UInt8.toNat_inj.1 (by show x.toNat = 47; omega))
theorem tk_one {l : List UInt8} {i : Nat} {x : UInt8} (h : l[i]? = some x) : (l.drop i).take 1 = [x] := by
  obtain ⟨hi, hx⟩ := List.getElem?_eq_some_iff.1 h
  rw [List.drop_eq_getElem_cons hi, hx]; rfl
theorem tk_two {l : List UInt8} {i : Nat} {x y : UInt8} (h : l[i]? = some x) (h2 : l[i + 1]? = some y) : (l.drop i).take 2 = [x, y] := by
  obtain ⟨hi, hx⟩ := List.getElem?_eq_some_iff.1 h
  obtain ⟨hj, hy⟩ := List.getElem?_eq_some_iff.1 h2
  rw [List.drop_eq_getElem_cons hi, hx, List.drop_eq_getElem_cons hj, hy]; rfl

set_option maxHeartbeats 400000 in
theorem clean_one (s : ByteArray) (w : World) (hs : s.data.toList = [47]) :
    Calls Tryd.prog 10 #[.string s] w fun e w' => e = .returned (.bool true) ∧ w' = w := by
  have hz : s.size = 1 := by rw [Lib.size_eq, hs]; rfl
  have h0 : s[0]'(by omega) = 47 := by
    have := Lib.data_getElem? s 0 (by omega)
    rw [hs] at this
    simpa using this.symm
  have e0 : ((s.size : Int) == 0) = false := beq_eq_false_iff_ne.2 (by omega)
  have e1 : ((s.size : Int) == 1) = true := beq_iff_eq.2 (by omega)
  have hp : (0 : Int) < (s.size : Int) := by omega
  have hp' : 0 < s.size := by omega
  have h0' : s[0]'hp' = 47 := h0
  clear h0
  clear hz hs
  go_enter Tryd.func10, Tryd.ntmps10
  go_wp2
  go_ret
  exact ⟨rfl, rfl⟩

set_option maxHeartbeats 4000000 in
set_option maxRecDepth 100000 in
theorem clean_more (s : ByteArray) (m : List UInt8) (st : List (List UInt8)) (t : Bool) (w : World) (hne : st ≠ []) (hg : ∀ x ∈ st, Good x) (hm : m = inner st) (hsd : s.data.toList = 47 :: m ++ (if t = true then [47] else [])) (hs : s.size ≤ 300000) :
    Calls Tryd.prog 10 #[.string s] w fun e w' => e = .returned (.bool true) ∧ w' = w := by
  have hc0 : Cln m 0 0 := by rw [hm]; exact Cln.zero hne hg
  have hlast := inner_last hne hg
  rw [enc_inner hne, ← hm] at hlast
  have hml : 1 ≤ m.length := by
    rw [hm]
    cases st with
    | nil => exact absurd rfl hne
    | cons x r =>
      have := hg x (List.mem_cons_self ..)
      rw [inner_cons]
      cases hx : x with
      | nil => exact absurd hx this.a
      | cons a b => simp
  have hsz : s.size = m.length + 1 + (if t = true then 1 else 0) := by
    rw [Lib.size_eq, hsd]
    cases t <;> simp
  have hat : ∀ j x, m[j]? = some x → s.data.toList[j + 1]? = some x := fun j x hx => by
    have hj := (List.getElem?_eq_some_iff.1 hx).1
    rw [hsd, List.cons_append, List.getElem?_cons_succ, List.getElem?_append_left hj]
    exact hx
  have hmd : ∀ j (hj : j < m.length) (h : j + 1 < s.size), m[j]? = some (s[j + 1]'h) := fun j hj h => by
    have h1 := Lib.data_getElem? s (j + 1) h
    rw [hat j m[j] (List.getElem?_eq_getElem hj)] at h1
    rw [List.getElem?_eq_getElem hj]
    exact h1
  have hfst : ∀ h : 0 < s.size, s[0]'h = 47 := fun h => by
    have := Lib.data_getElem? s 0 h
    rw [hsd] at this
    simpa using this.symm
  have hlst : ∀ h : s.size - 1 < s.size, (s[s.size - 1]'h = 47 ↔ t = true) := fun h => by
    have h1 := Lib.data_getElem? s (s.size - 1) h
    cases t
    · simp only [Bool.false_eq_true, if_false, List.append_nil, Nat.add_zero] at hsd hsz
      unfold endsS at hlast
      rw [List.getLast?_eq_getElem?, ← hsd, ← Lib.size_eq, h1] at hlast
      simpa using hlast
    · have h2 : s.data.toList[s.size - 1]? = some 47 := by
        simp only [if_true] at hsd hsz
        rw [hsd, hsz, List.getElem?_append_right (by simp)]
        simp
      rw [h2] at h1
      exact ⟨fun _ => rfl, fun _ => (Option.some.inj h1).symm⟩
  have HC0 := Hid.mk' hc0
  have HMd := Hid.mk' hmd
  have HLst := Hid.mk' hlst
  have HZ := Hid.mk' hsz
  have hp : (0 : Int) < (s.size : Int) := by split at hsz <;> omega
  have hp' : 0 < s.size := by omega
  have f0 := hfst hp'
  have hs2 : 2 ≤ s.size := by split at hsz <;> omega
  have hln : s.size - 1 < s.size := by omega
  have e0 : ((s.size : Int) == 0) = false := beq_eq_false_iff_ne.2 (by omega)
  have e1 : ((s.size : Int) == 1) = false := beq_eq_false_iff_ne.2 (by omega)
  obtain ⟨E, hE⟩ : ∃ E, E = m.length + 1 := ⟨_, rfl⟩
  have HEE := Hid.mk' hE
  clear hc0 hlast hsz hat hmd hfst hlst hne hg hm hsd hml hE
  go_enter Tryd.func10, Tryd.ntmps10
  go_upto_region 6 with fail
  obtain ⟨y, hy⟩ : ∃ y : UInt8, s[s.size - 1]'hln = y := ⟨_, rfl⟩
  have hyt := HLst.out hln
  rw [hy] at hyt
  have HYt := Hid.mk' hyt
  clear hyt
  go_cut [24] from 20 to 24 (fun s24 wx => s24 = .bool t ∧ wx = w)
  case first =>
    cases t
    · have e47 := n47 (x := y) (fun h => by have := HYt.out.1 h; cases this)
      go_wp2
      go_meet
      exact ⟨rfl, rfl⟩
    · have e47 : ((y.toNat : Int) == 47) = true := by rw [HYt.out.2 rfl]; rfl
      go_wp2
      go_meet
      exact ⟨rfl, rfl⟩
  case rest =>
  obtain ⟨rfl, rfl⟩ := hcut
  go_upto_if 24 with fail
  go_cut [3] from 24 to 26 (fun s3 wx => s3 = .int .i64 (E : Int) ∧ wx = wc)
  case first =>
    cases t
    · have hEs : (s.size : Int) = (E : Int) := by have h1 := HZ.out; have h2 := HEE.out; simp at h1; omega
      have HEs := Hid.mk' hEs
      clear hEs
      go_wp2
      go_meet
      exact ⟨by rw [HEs.out], rfl⟩
    · have hEs : (s.size : Int) - 1 = (E : Int) := by have h1 := HZ.out; have h2 := HEE.out; simp at h1; omega
      have HEs := Hid.mk' hEs
      clear hEs
      go_wp2
      go_meet
      exact ⟨by rw [HEs.out], rfl⟩
  case rest =>
  obtain ⟨rfl, rfl⟩ := hcut
  have hEs : E ≤ s.size := by have h1 := HZ.out; have h2 := HEE.out; omega
  go_wp2
  go_loop [4, 5] (fun s4 s5 => ∃ ss k : Nat, s4 = .int .i64 ((ss : Int) + 1) ∧ s5 = .int .i64 ((k : Int) + 1) ∧ Cln m ss k) (fun _ s5 => E + 2 - (intOf s5).toNat)
  case atStart => exact ⟨0, 0, rfl, rfl, HC0.out⟩
  case round =>
    obtain ⟨ss, k, rfl, rfl, hc⟩ := hrel
    have HC := Hid.mk' hc
    have hssk := hc.le
    have hkn : k ≤ E := by rw [HEE.out]; exact hc.kn
    clear hc
    by_cases hle : k + 1 ≤ E
    · have hle' : (k : Int) + 1 ≤ (E : Int) := by omega
      have hkm : k ≤ m.length := by have := HEE.out; omega
      by_cases hbd : m[k]? = some 47 ∨ k = m.length
      · obtain ⟨hgd, hcn⟩ := HC.out.cut hbd
        have HG := Hid.mk' hgd
        have HCn := Hid.mk' hcn
        have hlen : ((m.drop ss).take (k - ss)).length = k - ss := by rw [List.length_take, List.length_drop]; omega
        have HLen := Hid.mk' hlen
        have hbd2 : (∃ h : k + 1 < s.size, k + 1 < E ∧ s[k + 1]'h = 47) ∨ ¬ k + 1 < E := by
          rcases hbd with h | h
          · have hk := (List.getElem?_eq_some_iff.1 h).1
            have hkE : k + 1 < E := by have := HEE.out; omega
            left
            refine ⟨by omega, hkE, ?_⟩
            have := HMd.out k hk (by omega)
            rw [h] at this
            exact (Option.some.inj this).symm
          · right; have := HEE.out; omega
        clear hgd hcn hlen hbd
        go_upto_region 12 with fail
        go_cut [40] from 32 to 40 (fun s40 wx => s40 = .bool false ∧ wx = wc)
        case first =>
          rcases hbd2 with ⟨h1, h2, h3⟩ | h2
          · have h2' : (k : Int) + 1 < (E : Int) := by omega
            have h1' : (k : Int) + 1 < (s.size : Int) := by omega
            go_wp2
            go_meet
            exact ⟨rfl, rfl⟩
          · have h2' : ¬ (k : Int) + 1 < (E : Int) := by omega
            go_wp2
            go_meet
            exact ⟨rfl, rfl⟩
        case rest =>
        obtain ⟨rfl, rfl⟩ := hcut
        clear hbd2
        have hk0 : k - ss ≠ 0 := fun h => HG.out.a (List.length_eq_zero_iff.1 (by rw [HLen.out]; exact h))
        have d0 : ((k : Int) + 1 - ((ss : Int) + 1) == 0) = false := beq_eq_false_iff_ne.2 (by omega)
        have hsn : ss + 1 < s.size := by omega
        have hsn' : (ss : Int) + 1 < (s.size : Int) := by omega
        obtain ⟨x, hx⟩ : ∃ x : UInt8, s[ss + 1]'hsn = x := ⟨_, rfl⟩
        have hxm : m[ss]? = some x := by rw [← hx]; exact HMd.out ss (by omega) hsn
        have Hxm := Hid.mk' hxm
        clear hxm hk0
        by_cases L1 : k = ss + 1
        · have d1 : ((k : Int) + 1 - ((ss : Int) + 1) == 1) = true := beq_iff_eq.2 (by omega)
          have d2 : ((k : Int) + 1 - ((ss : Int) + 1) == 2) = false := beq_eq_false_iff_ne.2 (by omega)
          have x46 : x ≠ 46 := fun h => HG.out.b (by rw [L1, show ss + 1 - ss = 1 by omega, tk_one Hxm.out, h])
          have e46 := n46 x46
          clear L1 x46
          go_wp2
          go_round
          case rel => exact ⟨k + 1, k + 1, by go_num, by go_num, HCn.out⟩
          case measure => simp [intOf]; omega
        · have d1 : ((k : Int) + 1 - ((ss : Int) + 1) == 1) = false := beq_eq_false_iff_ne.2 (by omega)
          by_cases L2 : k = ss + 2
          · have d2 : ((k : Int) + 1 - ((ss : Int) + 1) == 2) = true := beq_iff_eq.2 (by omega)
            have hsn2 : ss + 1 + 1 < s.size := by omega
            have hsn2' : (ss : Int) + 1 + 1 < (s.size : Int) := by omega
            obtain ⟨z, hz⟩ : ∃ z : UInt8, s[ss + 1 + 1]'hsn2 = z := ⟨_, rfl⟩
            have hzm : m[ss + 1]? = some z := by rw [← hz]; exact HMd.out (ss + 1) (by omega) hsn2
            by_cases x46 : x = 46
            · have z46 : z ≠ 46 := fun h => HG.out.c (by rw [L2, show ss + 2 - ss = 2 by omega, tk_two Hxm.out hzm, h, x46])
              have e46 : ((x.toNat : Int) == 46) = true := by rw [x46]; rfl
              have f46 := n46 z46
              have g1 : s[ss + 2]'(by omega) = z := hz
              clear L2 L1 x46 z46 hzm
              go_wp2
              go_round
              case rel => exact ⟨k + 1, k + 1, by go_num, by go_num, HCn.out⟩
              case measure => simp [intOf]; omega
            · have e46 := n46 x46
              clear L2 L1 x46 hzm
              go_wp2
              go_round
              case rel => exact ⟨k + 1, k + 1, by go_num, by go_num, HCn.out⟩
              case measure => simp [intOf]; omega
          · have d2 : ((k : Int) + 1 - ((ss : Int) + 1) == 2) = false := beq_eq_false_iff_ne.2 (by omega)
            clear L2 L1
            go_wp2
            go_round
            case rel => exact ⟨k + 1, k + 1, by go_num, by go_num, HCn.out⟩
            case measure => simp [intOf]; omega
      · have hkm2 : k < m.length := by
          have h1 : k ≠ m.length := fun h => hbd (Or.inr h)
          omega
        have hks : k + 1 < s.size := by have := HEE.out; omega
        have hks' : (k : Int) + 1 < (s.size : Int) := by omega
        have hkE : (k : Int) + 1 < (E : Int) := by have := HEE.out; omega
        obtain ⟨c, hc⟩ : ∃ c : UInt8, s[k + 1]'hks = c := ⟨_, rfl⟩
        have hcm : m[k]? = some c := by rw [← hc]; exact HMd.out k hkm2 hks
        have h47 : c ≠ 47 := fun h => hbd (Or.inl (by rw [hcm, h]))
        have c47 : ((c.toNat : Int) != 47) = true := by simpa using n47 h47
        have H47 := Hid.mk' h47
        have Hcm := Hid.mk' hcm
        clear h47 hcm hbd
        go_wp2
        go_round
        case rel => exact ⟨ss, k + 1, by go_num, by go_num, HC.out.skip Hcm.out H47.out⟩
        case measure => simp [intOf]; omega
    · have hle' : ¬ (k : Int) + 1 ≤ (E : Int) := by omega
      go_wp2
      go_ret
      exact ⟨rfl, rfl⟩
end Go.Proofs.Qxb6605252aDoor
